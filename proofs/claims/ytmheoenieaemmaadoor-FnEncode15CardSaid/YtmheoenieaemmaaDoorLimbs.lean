/-
  Numbers in words of 64 bits, the lowest first: the plain laws.
-/
import Derived.Test.YtmheoenieaemmaaDoorWords
namespace Go.Proofs.YtmheoenieaemmaaDoor
open Go.RowKit

/-- 2 to the 64 k. -/
def Pw (k : Nat) : Nat := 18446744073709551616 ^ k
theorem Pw_zero : Pw 0 = 1 := by simp [Pw]
theorem Pw_succ (k : Nat) : Pw (k + 1) = 18446744073709551616 * Pw k := by unfold Pw; rw [Nat.pow_succ, Nat.mul_comm]
theorem Pw_add (a b : Nat) : Pw (a + b) = Pw a * Pw b := by unfold Pw; exact Nat.pow_add _ _ _
theorem Pw_pos (k : Nat) : 0 < Pw k := by unfold Pw; exact Nat.pow_pos (by decide)
theorem Pw_one : Pw 1 = 18446744073709551616 := by simp [Pw]
theorem Pw_le {a b : Nat} (h : a ≤ b) : Pw a ≤ Pw b := by unfold Pw; exact Nat.pow_le_pow_right (by decide) h

/-- What words stand for. -/
def val : List Nat → Nat
  | [] => 0
  | x :: xs => x + 18446744073709551616 * val xs

def Wd (xs : List Nat) : Prop := ∀ x ∈ xs, x < 18446744073709551616

theorem Wd.nil : Wd [] := fun _ h => by cases h
theorem Wd.cons {x : Nat} {xs : List Nat} (h : x < 18446744073709551616) (hs : Wd xs) : Wd (x :: xs) := fun y hy => by
  rcases List.mem_cons.1 hy with rfl | hy
  · exact h
  · exact hs y hy
theorem Wd.app {xs ys : List Nat} (h : Wd xs) (hs : Wd ys) : Wd (xs ++ ys) := fun y hy => (List.mem_append.1 hy).elim (h y) (hs y)
theorem Wd.left {xs ys : List Nat} (h : Wd (xs ++ ys)) : Wd xs := fun y hy => h y (List.mem_append_left _ hy)
theorem Wd.right {xs ys : List Nat} (h : Wd (xs ++ ys)) : Wd ys := fun y hy => h y (List.mem_append_right _ hy)
theorem Wd.get {xs : List Nat} (h : Wd xs) (i : Nat) (hi : i < xs.length) : xs[i] < 18446744073709551616 := h _ (List.getElem_mem hi)
theorem Wd.take {xs : List Nat} (h : Wd xs) (n : Nat) : Wd (xs.take n) := fun y hy => h y (List.mem_of_mem_take hy)
theorem Wd.drop {xs : List Nat} (h : Wd xs) (n : Nat) : Wd (xs.drop n) := fun y hy => h y (List.mem_of_mem_drop hy)
theorem Wd.snoc {xs : List Nat} {x : Nat} (h : Wd xs) (hx : x < 18446744073709551616) : Wd (xs ++ [x]) := h.app (Wd.cons hx Wd.nil)
theorem Wd.replicate (n x : Nat) (h : x < 18446744073709551616) : Wd (List.replicate n x) := fun y hy => by rw [List.eq_of_mem_replicate hy]; exact h
theorem Wd.set {xs : List Nat} (h : Wd xs) (i x : Nat) (hx : x < 18446744073709551616) : Wd (xs.set i x) := fun y hy => by
  rcases List.mem_or_eq_of_mem_set hy with hy | rfl
  · exact h y hy
  · exact hx

theorem val_append (xs ys : List Nat) : val (xs ++ ys) = val xs + Pw xs.length * val ys := by
  induction xs with
  | nil => simp [val, Pw_zero]
  | cons x xs ih =>
    rw [List.cons_append, val, val, ih, List.length_cons, Pw_succ, Nat.mul_add, Nat.mul_assoc]; omega
theorem val_snoc (xs : List Nat) (x : Nat) : val (xs ++ [x]) = val xs + Pw xs.length * x := by rw [val_append]; simp [val]
theorem val_take_succ (xs : List Nat) (k : Nat) (h : k < xs.length) : val (xs.take (k + 1)) = val (xs.take k) + Pw k * xs[k] := by
  rw [List.take_succ_eq_append_getElem h, val_snoc, List.length_take, Nat.min_eq_left (by omega)]
theorem val_lt (xs : List Nat) (h : Wd xs) : val xs < Pw xs.length := by
  induction xs with
  | nil => simp [val, Pw_zero]
  | cons x xs ih =>
    have h1 := h x (List.mem_cons_self ..)
    have h2 := ih (fun y hy => h y (List.mem_cons_of_mem _ hy))
    rw [val, List.length_cons, Pw_succ]; omega
theorem val_replicate_zero (n : Nat) : val (List.replicate n 0) = 0 := by
  induction n with
  | zero => rfl
  | succ n ih => rw [List.replicate_succ, val, ih]
theorem val_eq_zero {xs : List Nat} : val xs = 0 ↔ ∀ x ∈ xs, x = 0 := by
  induction xs with
  | nil => simp [val]
  | cons x xs ih =>
    rw [val]
    constructor
    · intro h y hy
      rcases List.mem_cons.1 hy with rfl | hy
      · omega
      · exact ih.1 (by omega) y hy
    · intro h
      have h1 := h x (List.mem_cons_self ..)
      have h2 := ih.2 (fun y hy => h y (List.mem_cons_of_mem _ hy))
      omega
theorem val_inj {xs ys : List Nat} (hx : Wd xs) (hy : Wd ys) (hl : xs.length = ys.length) (h : val xs = val ys) : xs = ys := by
  induction xs generalizing ys with
  | nil => cases ys with
    | nil => rfl
    | cons y ys => simp at hl
  | cons x xs ih => cases ys with
    | nil => simp at hl
    | cons y ys =>
      rw [val, val] at h
      have h1 := hx x (List.mem_cons_self ..)
      have h2 := hy y (List.mem_cons_self ..)
      have e : x = y := by omega
      subst e
      rw [ih (fun z hz => hx z (List.mem_cons_of_mem _ hz)) (fun z hz => hy z (List.mem_cons_of_mem _ hz)) (by simpa using hl) (by omega)]

theorem mul_cancel_left {a b c : Nat} (h : 0 < a) : a * b = a * c ↔ b = c := Nat.mul_right_inj (Nat.pos_iff_ne_zero.1 h)

/-- A number in so many words. -/
def words : Nat → Nat → List Nat
  | 0, _ => []
  | n + 1, v => v % 18446744073709551616 :: words n (v / 18446744073709551616)
theorem words_length (n v : Nat) : (words n v).length = n := by
  induction n generalizing v with
  | zero => rfl
  | succ n ih => simp [words, ih]
theorem words_wd (n v : Nat) : Wd (words n v) := by
  induction n generalizing v with
  | zero => exact Wd.nil
  | succ n ih => exact Wd.cons (Nat.mod_lt _ (by decide)) (ih _)
theorem val_words (n v : Nat) (h : v < Pw n) : val (words n v) = v := by
  induction n generalizing v with
  | zero => rw [Pw_zero] at h; simp [words, val]; omega
  | succ n ih =>
    rw [Pw_succ] at h
    rw [words, val, ih _ (by omega)]; omega

end Go.Proofs.YtmheoenieaemmaaDoor
