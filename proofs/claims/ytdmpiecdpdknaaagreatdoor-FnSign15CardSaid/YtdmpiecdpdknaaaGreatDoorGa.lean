/-
  Words: math/bits Add, Sub, Mul of words, and the small words of bigmod.
  Numbers in words of 64 bits, the lowest first: the plain laws.
  bigmod.Nat in memory; add, sub.
  bigmod.Nat: IsZero, IsOne, IsOdd, Equal, cmpGeq.
  bigmod.Nat: Equal, cmpGeq, assign.
-/
import Derived.Test.YtdmpiecdpdknaaaGreatDoorRows
import Derived.Test.YtdmpiecdpdknaaaGreatDoorGj
import Derived.Shelf.Spec.BitsCarry
import Derived.Shelf.Bits.Mul64
import Derived.BigQuiet
import Derived.Deep.QuietTactic
import Derived.Deep.RegionWith
namespace Go.Proofs.YtdmpiecdpdknaaaGreatDoor
open Go.RowKit

/-- A word as a value. -/
def U (x : Nat) : Value := .int .u64 (x : Int)

theorem run_Add64 (x y c s k : Nat) (hc : c ≤ 1) (hs : s < 18446744073709551616) (h : x + y + c = s + 18446744073709551616 * k) (w : World) :
    (callFunc 108 #[.int .u64 x, .int .u64 y, .int .u64 c]).run Tryz.prog w = .ok (.value (.tuple #[.int .u64 s, .int .u64 k])) w := by
  rw [run_callFunc_extern Tryz.func108 (by kernel_rfl) (by kernel_rfl) (by kernel_rfl) (e := add64Entry) (by kernel_rfl), run_add64 x y c (by omega) (by omega) (by omega) (by omega)]
  have e1 : ((x : Int) + y + c) % 18446744073709551616 = s := by
    rw [show (x : Int) + y + c = s + 18446744073709551616 * k by omega, Int.add_mul_emod_self_left]; omega
  have e2 : ((x : Int) + y + c) / 18446744073709551616 = k := by
    rw [show (x : Int) + y + c = s + 18446744073709551616 * k by omega, Int.add_mul_ediv_left _ _ (by decide)]; omega
  rw [e1, e2]; rfl

theorem run_Sub64 (x y b d k : Nat) (hb : b ≤ 1) (hd : d < 18446744073709551616) (hx : x < 18446744073709551616) (hy : y < 18446744073709551616) (h : x + 18446744073709551616 * k = d + y + b) (w : World) :
    (callFunc 103 #[.int .u64 x, .int .u64 y, .int .u64 b]).run Tryz.prog w = .ok (.value (.tuple #[.int .u64 d, .int .u64 k])) w := by
  rw [run_callFunc_extern Tryz.func103 (by kernel_rfl) (by kernel_rfl) (by kernel_rfl) (e := sub64Entry) (by kernel_rfl), run_sub64 x y b hb]
  have e1 : (x + 18446744073709551616 - y - b) % 18446744073709551616 = d := by omega
  have e2 : (if x < y + b then 1 else 0) = k := by split <;> omega
  rw [e1, e2]; rfl

theorem bitsAdd_is (x y c s k : Nat) (hc : c ≤ 1) (hs : s < 18446744073709551616) (h : x + y + c = s + 18446744073709551616 * k) (w : World) :
    Calls Tryz.prog 99 #[.int .u64 x, .int .u64 y, .int .u64 c] w fun e w' => e = .returned (.tuple #[.int .u64 s, .int .u64 k]) ∧ w = w' := by
  have h64 := run_Add64 x y c s k hc hs h
  clear h hs
  go_enter Tryz.func99, Tryz.ntmps99
  go_wp2_with fail
  go_ret2
  exact ⟨rfl, rfl⟩

theorem bitsSub_is (x y b d k : Nat) (hb : b ≤ 1) (hd : d < 18446744073709551616) (hx : x < 18446744073709551616) (hy : y < 18446744073709551616) (h : x + 18446744073709551616 * k = d + y + b) (w : World) :
    Calls Tryz.prog 84 #[.int .u64 x, .int .u64 y, .int .u64 b] w fun e w' => e = .returned (.tuple #[.int .u64 d, .int .u64 k]) ∧ w = w' := by
  have h64 := run_Sub64 x y b d k hb hd hx hy h
  clear h hd
  go_enter Tryz.func84, Tryz.ntmps84
  go_wp2_with fail
  go_ret2
  exact ⟨rfl, rfl⟩

set_option maxHeartbeats 1000000 in
theorem bitsMul64 (x y : Nat) (hx : x < 18446744073709551616) (hy : y < 18446744073709551616) (w : World) :
    Calls Tryz.prog 110 #[.int .u64 x, .int .u64 y] w fun e w' => e = .returned (.tuple #[.int .u64 ((x * y / 18446744073709551616 : Nat) : Int), .int .u64 ((x * y % 18446744073709551616 : Nat) : Int)]) ∧ w = w' := by
  obtain ⟨bd, bt, bw, hhi⟩ := Lib.mul64_hi x y hx hy
  have ba := Lib.half_mul_le (a := x / 4294967296) (b := y / 4294967296) (by omega) (by omega)
  have bb := Lib.half_mul_le (a := x / 4294967296) (b := y % 4294967296) (by omega) (by omega)
  have bc := Lib.half_mul_le (a := x % 4294967296) (b := y / 4294967296) (by omega) (by omega)
  have ba' : x / 4294967296 * (y / 4294967296) < 18446744073709551616 := by omega
  have bb' : x / 4294967296 * (y % 4294967296) < 18446744073709551616 := by omega
  have bc' : x % 4294967296 * (y / 4294967296) < 18446744073709551616 := by omega
  have bh1 : x / 4294967296 * (y / 4294967296) + (x / 4294967296 * (y % 4294967296) + x % 4294967296 * (y % 4294967296) / 4294967296) / 4294967296 < 18446744073709551616 := by omega
  have bh : x / 4294967296 * (y / 4294967296) + (x / 4294967296 * (y % 4294967296) + x % 4294967296 * (y % 4294967296) / 4294967296) / 4294967296 + ((x / 4294967296 * (y % 4294967296) + x % 4294967296 * (y % 4294967296) / 4294967296) % 4294967296 + x % 4294967296 * (y / 4294967296)) / 4294967296 < 18446744073709551616 := by omega
  go_enter Tryz.func110, Tryz.ntmps110
  go_wp2
  simp only [Mul64.maskN x hx, Mul64.maskN y hy, Mul64.divN, Mul64.mulN, Mul64.addN, Mul64.wrapN _ bd, Mul64.wrapN _ bb', Mul64.wrapN _ bt, Mul64.maskN _ bt, Mul64.wrapN _ bc', Mul64.wrapN _ bw, Mul64.wrapN _ ba', Mul64.wrapN _ bh1, Mul64.wrapN _ bh, Mul64.wrapM (x * y)]
  rw [hhi]
  go_ret2
  exact ⟨rfl, rfl⟩

theorem bitsMul_is (x y hi lo : Nat) (hx : x < 18446744073709551616) (hy : y < 18446744073709551616) (hl : lo < 18446744073709551616) (h : x * y = lo + 18446744073709551616 * hi) (w : World) :
    Calls Tryz.prog 106 #[.int .u64 x, .int .u64 y] w fun e w' => e = .returned (.tuple #[.int .u64 hi, .int .u64 lo]) ∧ w = w' := by
  have c64 := bitsMul64 x y hx hy w
  rw [show x * y / 18446744073709551616 = hi by omega, show x * y % 18446744073709551616 = lo by omega] at c64
  have C := Lib.hid c64
  clear c64 h
  go_enter Tryz.func106, Tryz.ntmps106
  go_wp2_with fail
  refine C.out.mono ?_
  rintro e w' ⟨rfl, rfl⟩
  go_wp2_with fail
  go_ret2
  exact ⟨rfl, rfl⟩

theorem not_is (c : Nat) (hc : c ≤ 1) (w : World) :
    Calls Tryz.prog 85 #[.int .u64 c] w fun e w' => e = .returned (.int .u64 ((1 - c : Nat) : Int)) ∧ w = w' := by
  have : c = 0 ∨ c = 1 := by omega
  rcases this with rfl | rfl
  · go_enter Tryz.func85, Tryz.ntmps85
    go_wp2_with fail
    go_ret
    exact ⟨rfl, rfl⟩
  · go_enter Tryz.func85, Tryz.ntmps85
    go_wp2_with fail
    go_ret
    exact ⟨rfl, rfl⟩

/-- All ones where it is one. -/
def maskOf (c : Nat) : Nat := c * 18446744073709551615
theorem ctMask_is (c : Nat) (hc : c ≤ 1) (w : World) :
    Calls Tryz.prog 104 #[.int .u64 c] w fun e w' => e = .returned (.int .u64 (maskOf c : Int)) ∧ w = w' := by
  have : c = 0 ∨ c = 1 := by omega
  rcases this with rfl | rfl
  · go_enter Tryz.func104, Tryz.ntmps104
    go_wp2_with fail
    go_ret
    exact ⟨rfl, rfl⟩
  · go_enter Tryz.func104, Tryz.ntmps104
    go_wp2_with fail
    go_ret
    exact ⟨rfl, rfl⟩

theorem ctEq_any (x y : Nat) (hx : x < 18446744073709551616) (hy : y < 18446744073709551616) (w : World) :
    Calls Tryz.prog 88 #[.int .u64 x, .int .u64 y] w fun e w' => e = .returned (.int .u64 ((if x = y then 1 else 0 : Nat) : Int)) ∧ w = w' := by
  obtain ⟨d1, k1, h1, l1⟩ : ∃ d k, x + 18446744073709551616 * k = d + y + 0 ∧ d < 18446744073709551616 := ⟨(x + 18446744073709551616 - y) % 18446744073709551616, if x < y then 1 else 0, by split <;> omega, by omega⟩
  obtain ⟨d2, k2, h2, l2⟩ : ∃ d k, y + 18446744073709551616 * k = d + x + 0 ∧ d < 18446744073709551616 := ⟨(y + 18446744073709551616 - x) % 18446744073709551616, if y < x then 1 else 0, by split <;> omega, by omega⟩
  have c1 := bitsSub_is x y 0 d1 k1 (by omega) l1 hx hy h1
  have c2 := bitsSub_is y x 0 d2 k2 (by omega) l2 hy hx h2
  have C1 := Lib.hid c1
  have C2 := Lib.hid c2
  by_cases hxy : x = y
  · obtain rfl : k1 = 0 := by omega
    obtain rfl : k2 = 0 := by omega
    have hn := not_is 0 (by omega)
    have HN := Lib.hid hn
    rw [if_pos hxy]
    clear c1 c2 h1 h2 hn hxy
    go_enter Tryz.func88, Tryz.ntmps88
    go_wp2_with fail
    refine (C1.out w).mono ?_
    rintro e w' ⟨rfl, rfl⟩
    go_wp2_with fail
    refine (C2.out w).mono ?_
    rintro e w' ⟨rfl, rfl⟩
    go_wp2_with fail
    refine (HN.out w).mono ?_
    rintro e w' ⟨rfl, rfl⟩
    go_wp2_with fail
    go_ret
    exact ⟨rfl, rfl⟩
  · have hk : (k1 = 1 ∧ k2 = 0) ∨ (k1 = 0 ∧ k2 = 1) := by omega
    have hn := not_is 1 (by omega)
    have HN := Lib.hid hn
    rw [if_neg hxy]
    rcases hk with ⟨rfl, rfl⟩ | ⟨rfl, rfl⟩
    all_goals
      clear c1 c2 h1 h2 hn hxy
      go_enter Tryz.func88, Tryz.ntmps88
      go_wp2_with fail
      refine (C1.out w).mono ?_
      rintro e w' ⟨rfl, rfl⟩
      go_wp2_with fail
      refine (C2.out w).mono ?_
      rintro e w' ⟨rfl, rfl⟩
      go_wp2_with fail
      refine (HN.out w).mono ?_
      rintro e w' ⟨rfl, rfl⟩
      go_wp2_with fail
      go_ret
      exact ⟨rfl, rfl⟩

end Go.Proofs.YtdmpiecdpdknaaaGreatDoor
namespace Go.Proofs.YtdmpiecdpdknaaaGreatDoor
open Go.RowKit

/-- 2 to the 64 k. -/
def Pw (k : Nat) : Nat := 18446744073709551616 ^ k
theorem Pw_zero : Pw 0 = 1 := by simp [Pw]
theorem Pw_succ (k : Nat) : Pw (k + 1) = 18446744073709551616 * Pw k := by unfold Pw; rw [Nat.pow_succ, Nat.mul_comm]
theorem Pw_add (a b : Nat) : Pw (a + b) = Pw a * Pw b := by unfold Pw; exact Nat.pow_add _ _ _
theorem Pw_pos (k : Nat) : 0 < Pw k := by unfold Pw; exact Nat.pow_pos (by decide)
theorem Pw_one : Pw 1 = 18446744073709551616 := by simp [Pw]
theorem Pw_le {a b : Nat} (h : a ≤ b) : Pw a ≤ Pw b := by unfold Pw; exact Nat.pow_le_pow_right (by decide) h

/-- What words stand for. -/
def val : List Nat → Nat
  | [] => 0
  | x :: xs => x + 18446744073709551616 * val xs

def Wd (xs : List Nat) : Prop := ∀ x ∈ xs, x < 18446744073709551616

theorem Wd.nil : Wd [] := fun _ h => by cases h
theorem Wd.cons {x : Nat} {xs : List Nat} (h : x < 18446744073709551616) (hs : Wd xs) : Wd (x :: xs) := fun y hy => by
  rcases List.mem_cons.1 hy with rfl | hy
  · exact h
  · exact hs y hy
theorem Wd.app {xs ys : List Nat} (h : Wd xs) (hs : Wd ys) : Wd (xs ++ ys) := fun y hy => (List.mem_append.1 hy).elim (h y) (hs y)
theorem Wd.left {xs ys : List Nat} (h : Wd (xs ++ ys)) : Wd xs := fun y hy => h y (List.mem_append_left _ hy)
theorem Wd.right {xs ys : List Nat} (h : Wd (xs ++ ys)) : Wd ys := fun y hy => h y (List.mem_append_right _ hy)
theorem Wd.get {xs : List Nat} (h : Wd xs) (i : Nat) (hi : i < xs.length) : xs[i] < 18446744073709551616 := h _ (List.getElem_mem hi)
theorem Wd.take {xs : List Nat} (h : Wd xs) (n : Nat) : Wd (xs.take n) := fun y hy => h y (List.mem_of_mem_take hy)
theorem Wd.drop {xs : List Nat} (h : Wd xs) (n : Nat) : Wd (xs.drop n) := fun y hy => h y (List.mem_of_mem_drop hy)
theorem Wd.snoc {xs : List Nat} {x : Nat} (h : Wd xs) (hx : x < 18446744073709551616) : Wd (xs ++ [x]) := h.app (Wd.cons hx Wd.nil)
theorem Wd.replicate (n x : Nat) (h : x < 18446744073709551616) : Wd (List.replicate n x) := fun y hy => by rw [List.eq_of_mem_replicate hy]; exact h
theorem Wd.set {xs : List Nat} (h : Wd xs) (i x : Nat) (hx : x < 18446744073709551616) : Wd (xs.set i x) := fun y hy => by
  rcases List.mem_or_eq_of_mem_set hy with hy | rfl
  · exact h y hy
  · exact hx

theorem val_append (xs ys : List Nat) : val (xs ++ ys) = val xs + Pw xs.length * val ys := by
  induction xs with
  | nil => simp [val, Pw_zero]
  | cons x xs ih =>
    rw [List.cons_append, val, val, ih, List.length_cons, Pw_succ, Nat.mul_add, Nat.mul_assoc]; omega
theorem val_snoc (xs : List Nat) (x : Nat) : val (xs ++ [x]) = val xs + Pw xs.length * x := by rw [val_append]; simp [val]
theorem val_take_succ (xs : List Nat) (k : Nat) (h : k < xs.length) : val (xs.take (k + 1)) = val (xs.take k) + Pw k * xs[k] := by
  rw [List.take_succ_eq_append_getElem h, val_snoc, List.length_take, Nat.min_eq_left (by omega)]
theorem val_lt (xs : List Nat) (h : Wd xs) : val xs < Pw xs.length := by
  induction xs with
  | nil => simp [val, Pw_zero]
  | cons x xs ih =>
    have h1 := h x (List.mem_cons_self ..)
    have h2 := ih (fun y hy => h y (List.mem_cons_of_mem _ hy))
    rw [val, List.length_cons, Pw_succ]; omega
theorem val_replicate_zero (n : Nat) : val (List.replicate n 0) = 0 := by
  induction n with
  | zero => rfl
  | succ n ih => rw [List.replicate_succ, val, ih]
theorem val_eq_zero {xs : List Nat} : val xs = 0 ↔ ∀ x ∈ xs, x = 0 := by
  induction xs with
  | nil => simp [val]
  | cons x xs ih =>
    rw [val]
    constructor
    · intro h y hy
      rcases List.mem_cons.1 hy with rfl | hy
      · omega
      · exact ih.1 (by omega) y hy
    · intro h
      have h1 := h x (List.mem_cons_self ..)
      have h2 := ih.2 (fun y hy => h y (List.mem_cons_of_mem _ hy))
      omega
theorem val_inj {xs ys : List Nat} (hx : Wd xs) (hy : Wd ys) (hl : xs.length = ys.length) (h : val xs = val ys) : xs = ys := by
  induction xs generalizing ys with
  | nil => cases ys with
    | nil => rfl
    | cons y ys => simp at hl
  | cons x xs ih => cases ys with
    | nil => simp at hl
    | cons y ys =>
      rw [val, val] at h
      have h1 := hx x (List.mem_cons_self ..)
      have h2 := hy y (List.mem_cons_self ..)
      have e : x = y := by omega
      subst e
      rw [ih (fun z hz => hx z (List.mem_cons_of_mem _ hz)) (fun z hz => hy z (List.mem_cons_of_mem _ hz)) (by simpa using hl) (by omega)]

theorem mul_cancel_left {a b c : Nat} (h : 0 < a) : a * b = a * c ↔ b = c := Nat.mul_right_inj (Nat.pos_iff_ne_zero.1 h)

/-- A number in so many words. -/
def words : Nat → Nat → List Nat
  | 0, _ => []
  | n + 1, v => v % 18446744073709551616 :: words n (v / 18446744073709551616)
theorem words_length (n v : Nat) : (words n v).length = n := by
  induction n generalizing v with
  | zero => rfl
  | succ n ih => simp [words, ih]
theorem words_wd (n v : Nat) : Wd (words n v) := by
  induction n generalizing v with
  | zero => exact Wd.nil
  | succ n ih => exact Wd.cons (Nat.mod_lt _ (by decide)) (ih _)
theorem val_words (n v : Nat) (h : v < Pw n) : val (words n v) = v := by
  induction n generalizing v with
  | zero => rw [Pw_zero] at h; simp [words, val]; omega
  | succ n ih =>
    rw [Pw_succ] at h
    rw [words, val, ih _ (by omega)]; omega

end Go.Proofs.YtdmpiecdpdknaaaGreatDoor
namespace Go.Proofs.YtdmpiecdpdknaaaGreatDoor
open Go.RowKit

/-- The number xs (its words) lies in block p, the words in block b, behind them rest. -/
def NatAt (w : World) (p b : Nat) (xs rest : List Nat) : Prop :=
  Blk w p 91 #[.slice (some ⟨b, 0, none⟩) xs.length (xs.length + rest.length)] ∧ Blk w b 67 ((xs ++ rest).map U).toArray ∧ Wd xs ∧ Wd rest

section
variable {w w' : World} {S : Nat → Prop} {p b g : Nat} {xs rest : List Nat}
theorem NatAt.kept (h : NatAt w p b xs rest) (k : Kept S w w') (hp : ¬ S p) (hb : ¬ S b) : NatAt w' p b xs rest := ⟨h.1.kept k hp, h.2.1.kept k hb, h.2.2⟩
theorem NatAt.still (h : NatAt w p b xs rest) (k : Kept NoBlk w w') : NatAt w' p b xs rest := h.kept k (fun e => e) (fun e => e)
theorem NatAt.lt (h : NatAt w p b xs rest) : p < w.heap.size ∧ b < w.heap.size := ⟨h.1.lt, h.2.1.lt⟩
theorem NatAt.pb (h : NatAt w p b xs rest) : p ≠ b := h.1.ne_ h.2.1 (by decide)
theorem NatAt.cell (h : NatAt w p b xs rest) : w.cell? ⟨p, 0, none⟩ = some (.slice (some ⟨b, 0, none⟩) xs.length (xs.length + rest.length)) := h.1.cellIs rfl
theorem NatAt.limb (h : NatAt w p b xs rest) (i : Nat) (hi : i < xs.length) : w.cell? ⟨b, i, none⟩ = some (.int .u64 (xs[i] : Int)) := h.2.1.cellIs (by
  rw [List.getElem?_toArray, List.getElem?_map, List.getElem?_append_left hi, List.getElem?_eq_getElem hi]; rfl)
end

/-- A row in the middle of being turned: zs is done. -/
def Mid (w : World) (b : Nat) (zs os : List Nat) (k : Nat) : Prop := Blk w b 67 ((zs ++ os.drop k).map U).toArray
theorem Mid.cell {w : World} {b : Nat} {zs os : List Nat} {k : Nat} (h : Mid w b zs os k) (hz : zs.length = k) (hk : k < os.length) : w.cell? ⟨b, k, none⟩ = some (.int .u64 (os[k] : Int)) := h.cellIs (by
  rw [List.getElem?_toArray, List.getElem?_map, List.getElem?_append_right (by omega), hz, Nat.sub_self, List.getElem?_drop, Nat.add_zero, List.getElem?_eq_getElem hk]; rfl)
theorem Mid.set {w w' : World} {b : Nat} {zs os : List Nat} {k : Nat} (h : Mid w b zs os k) (hz : zs.length = k) (hk : k < os.length) (z : Nat) (hw : w' = w.setCell ⟨b, k, none⟩ (.int .u64 (z : Int))) : Mid w' b (zs ++ [z]) os (k + 1) := by
  subst hw
  have h1 := Blk.set_ h k (.int .u64 (z : Int))
  unfold Mid
  rw [List.drop_eq_getElem_cons hk] at h1
  have e : ((zs ++ os[k] :: os.drop (k + 1)).map U).toArray.setIfInBounds k (.int .u64 (z : Int)) = ((zs ++ [z] ++ os.drop (k + 1)).map U).toArray := by
    subst hz
    rw [List.map_append, List.map_cons, List.setIfInBounds_toArray, List.set_append_right _ _ (by simp)]
    simp only [List.length_map, Nat.sub_self, List.set_cons_zero, List.map_append, List.map_cons, List.append_assoc, List.cons_append, List.nil_append, U]
  rw [e] at h1
  exact h1
theorem Mid.frozen {w : World} {b : Nat} {zs os : List Nat} {k : Nat} (h : Mid w b zs os k) (i : Nat) : w.frozen? ⟨b, i, none⟩ = false := Blk.frozen h i
theorem Mid.drew {w : World} {b : Nat} {zs os : List Nat} {k : Nat} (h : Mid w b zs os k) : Mid w.drew b zs os k := h
theorem Mid.drewN {w : World} {b : Nat} {zs os : List Nat} {k : Nat} (h : Mid w b zs os k) (n : Nat) : Mid (w.drewN n) b zs os k := h
theorem NatAt.mid {w : World} {p b : Nat} {xs rest : List Nat} (h : NatAt w p b xs rest) : Mid w b [] (xs ++ rest) 0 := by
  have := h.2.1
  simpa [Mid] using this
theorem Mid.done {w w0 : World} {p b : Nat} {xs rest zs : List Nat} (h : Mid w b zs (xs ++ rest) xs.length) (hn : NatAt w0 p b xs rest) (k : Kept (OneBlk b) w0 w) (hz : zs.length = xs.length) (hw : Wd zs) : NatAt w p b zs rest := by
  refine ⟨?_, ?_, hw, hn.2.2.2⟩
  · rw [hz]; exact hn.1.kept k hn.pb
  · have := h
    unfold Mid at this
    rw [List.drop_left] at this
    exact this

/-- The other number's words, while a row is turned: they are another row's, or that row's own. -/
theorem other_limb {w wr : World} {p b p' b' : Nat} {xs rest ys rest' zs : List Nat} {k : Nat} (hx : NatAt w p b xs rest) (hy : NatAt w p' b' ys rest') (hl : xs.length = ys.length) (hb : b ≠ b' ∨ b = b' ∧ xs = ys)
    (hm : Mid wr b zs (xs ++ rest) k) (hk : Kept (OneBlk b) w wr) (hz : zs.length = k) (hlt : k < xs.length) : wr.cell? ⟨b', k, none⟩ = some (.int .u64 ((ys[k]'(by omega)) : Int)) := by
  rcases hb with hb | ⟨rfl, rfl⟩
  · exact (hy.kept hk (fun e => hx.1.lt |> fun _ => (by
      have h1 := hy.1
      have h2 := hx.2.1
      exact h1.ne_ h2 (by decide) e)) (fun e => hb e.symm)).limb k (by omega)
  · have := hm.cell hz (by simp; omega)
    rw [this, List.getElem_append_left hlt]

theorem nat_add (p b p' b' : Nat) (xs rest ys rest' : List Nat) (w : World) (hx : NatAt w p b xs rest) (hy : NatAt w p' b' ys rest') (hl : xs.length = ys.length) (hb : b ≠ b' ∨ b = b' ∧ xs = ys) (hn' : ys.length + rest'.length ≤ 1000000) :
    Calls Tryz.prog 93 #[.pointer (some ⟨p, 0, none⟩), .pointer (some ⟨p', 0, none⟩)] w fun e w' =>
      ∃ (zs : List Nat) (c : Nat), e = .returned (.int .u64 c) ∧ c ≤ 1 ∧ zs.length = xs.length ∧ val zs + Pw xs.length * c = val xs + val ys ∧ NatAt w' p b zs rest ∧ Kept (OneBlk b) w w' := by
  have c1 := hx.cell
  have c2 := hy.cell
  have HX := Lib.hid hx
  have HY := Lib.hid hy
  have HL := Lib.hid hl
  have HB := Lib.hid hb
  have hle : xs.length ≤ ys.length + rest'.length := by omega
  clear hx hy hl hb
  go_enter Tryz.func93, Tryz.ntmps93
  go_wp2_with fail
  go_loopw [4, 8] (fun cv iv wr => ∃ (k : Nat) (zs : List Nat) (c : Nat), k ≤ xs.length ∧ cv = .int .u64 c ∧ iv = .int .i64 k ∧ c ≤ 1 ∧ zs.length = k ∧ Wd zs ∧ val zs + Pw k * c = val (xs.take k) + val (ys.take k) ∧ Mid wr b zs (xs ++ rest) k ∧ Kept (OneBlk b) w wr) (fun _ i _ => xs.length - (intOf i).toNat)
  case atStart => exact ⟨0, [], 0, Nat.zero_le _, rfl, rfl, by omega, rfl, Wd.nil, by simp [val], HX.out.mid, Kept.refl _ _⟩
  case round =>
    obtain ⟨k, zs, c, hk, rfl, rfl, hc, hz, hwz, hv, hm, hkept⟩ := hrel
    by_cases hlt : k < xs.length
    · have cy := other_limb HX.out HY.out HL.out HB.out hm hkept hz hlt
      have cx := hm.cell hz (by simp; omega)
      rw [List.getElem_append_left hlt] at cx
      have hkl : k < ys.length := by have := HL.out; omega
      have wx : xs[k] < 18446744073709551616 := HX.out.2.2.1.get k hlt
      have wy : ys[k] < 18446744073709551616 := HY.out.2.2.1.get k hkl
      obtain ⟨s, c', hs, hsl⟩ : ∃ s c', xs[k] + ys[k] + c = s + 18446744073709551616 * c' ∧ s < 18446744073709551616 := ⟨(xs[k] + ys[k] + c) % 18446744073709551616, (xs[k] + ys[k] + c) / 18446744073709551616, by omega, by omega⟩
      have hadd := bitsAdd_is xs[k] ys[k] c s c' hc hsl hs
      have hc' : c' ≤ 1 := by omega
      have hv' : val (zs ++ [s]) + Pw (k + 1) * c' = val (xs.take (k + 1)) + val (ys.take (k + 1)) := by
        rw [val_snoc, val_take_succ xs k hlt, val_take_succ ys k hkl, hz, Pw_succ]
        have : Pw k * xs[k] + Pw k * ys[k] + Pw k * c = Pw k * s + Pw k * (18446744073709551616 * c') := by
          rw [← Nat.mul_add, ← Nat.mul_add, ← Nat.mul_add, hs]
        rw [Nat.mul_comm 18446744073709551616 (Pw k), Nat.mul_assoc]; omega
      have hf := hm.frozen k
      have hset := fun w' h => hm.set hz (by simp; omega) s (w' := w') h
      have HADD := Lib.hid hadd
      have HV := Lib.hid hv'
      have HSET := Lib.hid hset
      have HZ := Lib.hid hz
      have HWZ := Lib.hid (hwz.snoc hsl)
      have HK := Lib.hid hkept
      clear hadd hv hv' hset hz hwz hkept hm hs
      go_wp2_with fail
      go_region_with (go_at_call 99; refine (HADD.out _).mono ?_; rintro e w' ⟨rfl, rfl⟩)
      go_wp2_with fail
      all_goals
        go_roundw
        case rel => exact ⟨k + 1, zs ++ [s], c', by omega, rfl, by go_num, hc', by rw [List.length_append, HZ.out]; rfl, HWZ.out, HV.out, (HSET.out _ rfl).drew, (HK.out.setOne _ _).drew⟩
        case measure => simp [intOf]; omega
    · obtain rfl : k = xs.length := by omega
      have HD := Lib.hid (hm.done HX.out hkept hz hwz)
      have HK := Lib.hid hkept
      have hl := HL.out
      rw [List.take_of_length_le (Nat.le_refl _), hl, List.take_of_length_le (Nat.le_refl _)] at hv
      have HV := Lib.hid hv
      clear hm hkept hv hl
      go_wp2_with fail
      go_ret
      exact ⟨zs, c, rfl, hc, hz, by have := HL.out; rw [this]; exact HV.out, HD.out, HK.out⟩


theorem nat_sub (p b p' b' : Nat) (xs rest ys rest' : List Nat) (w : World) (hx : NatAt w p b xs rest) (hy : NatAt w p' b' ys rest') (hl : xs.length = ys.length) (hb : b ≠ b' ∨ b = b' ∧ xs = ys) (hn' : ys.length + rest'.length ≤ 1000000) :
    Calls Tryz.prog 92 #[.pointer (some ⟨p, 0, none⟩), .pointer (some ⟨p', 0, none⟩)] w fun e w' =>
      ∃ (zs : List Nat) (c : Nat), e = .returned (.int .u64 c) ∧ c ≤ 1 ∧ zs.length = xs.length ∧ val zs + val ys = val xs + Pw xs.length * c ∧ NatAt w' p b zs rest ∧ Kept (OneBlk b) w w' := by
  have c1 := hx.cell
  have c2 := hy.cell
  have HX := Lib.hid hx
  have HY := Lib.hid hy
  have HL := Lib.hid hl
  have HB := Lib.hid hb
  have hle : xs.length ≤ ys.length + rest'.length := by omega
  clear hx hy hl hb
  go_enter Tryz.func92, Tryz.ntmps92
  go_wp2_with fail
  go_loopw [4, 8] (fun cv iv wr => ∃ (k : Nat) (zs : List Nat) (c : Nat), k ≤ xs.length ∧ cv = .int .u64 c ∧ iv = .int .i64 k ∧ c ≤ 1 ∧ zs.length = k ∧ Wd zs ∧ val zs + val (ys.take k) = val (xs.take k) + Pw k * c ∧ Mid wr b zs (xs ++ rest) k ∧ Kept (OneBlk b) w wr) (fun _ i _ => xs.length - (intOf i).toNat)
  case atStart => exact ⟨0, [], 0, Nat.zero_le _, rfl, rfl, by omega, rfl, Wd.nil, by simp [val], HX.out.mid, Kept.refl _ _⟩
  case round =>
    obtain ⟨k, zs, c, hk, rfl, rfl, hc, hz, hwz, hv, hm, hkept⟩ := hrel
    by_cases hlt : k < xs.length
    · have cy := other_limb HX.out HY.out HL.out HB.out hm hkept hz hlt
      have cx := hm.cell hz (by simp; omega)
      rw [List.getElem_append_left hlt] at cx
      have hkl : k < ys.length := by have := HL.out; omega
      have wx : xs[k] < 18446744073709551616 := HX.out.2.2.1.get k hlt
      have wy : ys[k] < 18446744073709551616 := HY.out.2.2.1.get k hkl
      obtain ⟨s, c', hs, hsl⟩ : ∃ s c', xs[k] + 18446744073709551616 * c' = s + ys[k] + c ∧ s < 18446744073709551616 := ⟨(xs[k] + 18446744073709551616 + 18446744073709551616 - ys[k] - c) % 18446744073709551616, if xs[k] < ys[k] + c then 1 else 0, by split <;> omega, by omega⟩
      have hadd := bitsSub_is xs[k] ys[k] c s c' hc hsl wx wy hs
      have hc' : c' ≤ 1 := by omega
      have hv' : val (zs ++ [s]) + val (ys.take (k + 1)) = val (xs.take (k + 1)) + Pw (k + 1) * c' := by
        rw [val_snoc, val_take_succ xs k hlt, val_take_succ ys k hkl, hz, Pw_succ]
        have : Pw k * xs[k] + Pw k * (18446744073709551616 * c') = Pw k * s + Pw k * ys[k] + Pw k * c := by
          rw [← Nat.mul_add, ← Nat.mul_add, ← Nat.mul_add, hs]
        rw [Nat.mul_comm 18446744073709551616 (Pw k), Nat.mul_assoc]; omega
      have hf := hm.frozen k
      have hset := fun w' h => hm.set hz (by simp; omega) s (w' := w') h
      have HADD := Lib.hid hadd
      have HV := Lib.hid hv'
      have HSET := Lib.hid hset
      have HZ := Lib.hid hz
      have HWZ := Lib.hid (hwz.snoc hsl)
      have HK := Lib.hid hkept
      clear hadd hv hv' hset hz hwz hkept hm hs
      go_wp2_with fail
      go_region_with (go_at_call 84; refine (HADD.out _).mono ?_; rintro e w' ⟨rfl, rfl⟩)
      go_wp2_with fail
      all_goals
        go_roundw
        case rel => exact ⟨k + 1, zs ++ [s], c', by omega, rfl, by go_num, hc', by rw [List.length_append, HZ.out]; rfl, HWZ.out, HV.out, (HSET.out _ rfl).drew, (HK.out.setOne _ _).drew⟩
        case measure => simp [intOf]; omega
    · obtain rfl : k = xs.length := by omega
      have HD := Lib.hid (hm.done HX.out hkept hz hwz)
      have HK := Lib.hid hkept
      have hl := HL.out
      rw [List.take_of_length_le (Nat.le_refl _), hl, List.take_of_length_le (Nat.le_refl _)] at hv
      have HV := Lib.hid hv
      clear hm hkept hv hl
      go_wp2_with fail
      go_ret
      exact ⟨zs, c, rfl, hc, hz, by have := HL.out; rw [this]; exact HV.out, HD.out, HK.out⟩

end Go.Proofs.YtdmpiecdpdknaaaGreatDoor
namespace Go.Proofs.YtdmpiecdpdknaaaGreatDoor
open Go.RowKit

def bitN (b : Bool) : Nat := cond b 1 0
theorem bitN_lt (b : Bool) : bitN b < 18446744073709551616 := by cases b <;> decide
theorem bitN_le (b : Bool) : bitN b ≤ 1 := by cases b <;> decide
theorem bitN_and (a b : Bool) : bits .and .u64 (bitN a : Int) (bitN b : Int) = (bitN (a && b) : Int) := by cases a <;> cases b <;> decide
theorem bitN_or (a b : Bool) : bits .or .u64 (bitN a : Int) (bitN b : Int) = (bitN (a || b) : Int) := by cases a <;> cases b <;> decide

theorem ctEq_bit (x y : Nat) (hx : x < 18446744073709551616) (hy : y < 18446744073709551616) (w : World) :
    Calls Tryz.prog 88 #[.int .u64 x, .int .u64 y] w fun e w' => e = .returned (.int .u64 (bitN (decide (x = y)) : Int)) ∧ w = w' := by
  have h := ctEq_any x y hx hy w
  rw [show (if x = y then 1 else 0 : Nat) = bitN (decide (x = y)) by by_cases h : x = y <;> simp [h, bitN]] at h
  exact h
theorem not_bit (b : Bool) (w : World) :
    Calls Tryz.prog 85 #[.int .u64 (bitN b : Int)] w fun e w' => e = .returned (.int .u64 (bitN (!b) : Int)) ∧ w = w' := by
  have h := not_is (bitN b) (bitN_le b) w
  rw [show 1 - bitN b = bitN (!b) by cases b <;> rfl] at h
  exact h

theorem isZero_any (p b : Nat) (xs rest : List Nat) (w : World) (hx : NatAt w p b xs rest) (hn : xs.length + rest.length ≤ 1000000) :
    Calls Tryz.prog 79 #[.pointer (some ⟨p, 0, none⟩)] w fun e w' => e = .returned (.int .u64 (bitN (decide (val xs = 0)) : Int)) ∧ w = w' := by
  have c1 := hx.cell
  have HX := Lib.hid hx
  clear hx
  go_enter Tryz.func79, Tryz.ntmps79
  go_wp2_with fail
  go_loop [5, 6] (fun zv iv => ∃ (k : Nat), k ≤ xs.length ∧ zv = .int .u64 (bitN (decide (val (xs.take k) = 0)) : Int) ∧ iv = .int .i64 k) (fun _ i => xs.length - (intOf i).toNat)
  case atStart => exact ⟨0, Nat.zero_le _, rfl, rfl⟩
  case round =>
    obtain ⟨k, hk, rfl, rfl⟩ := hrel
    by_cases hlt : k < xs.length
    · have cx := HX.out.limb k hlt
      have hc := ctEq_bit xs[k] 0 (HX.out.2.2.1.get k hlt) (by omega) w
      have ha := bitN_and (decide (val (xs.take k) = 0)) (decide (xs[k] = 0))
      have hv : (decide (val (xs.take k) = 0) && decide (xs[k] = 0)) = decide (val (xs.take (k + 1)) = 0) := by
        rw [val_take_succ xs k hlt, Bool.eq_iff_iff, Bool.and_eq_true, decide_eq_true_iff, decide_eq_true_iff, decide_eq_true_iff]
        have := Pw_pos k
        constructor
        · rintro ⟨h1, h2⟩; rw [h1, h2]; omega
        · intro h
          refine ⟨by omega, ?_⟩
          rcases Nat.eq_zero_or_pos xs[k] with h0 | h0
          · exact h0
          · have := Nat.mul_pos this h0; omega
      rw [hv] at ha
      have HC := Lib.hid hc
      clear hc hv
      go_wp2_with fail
      refine HC.out.mono ?_
      rintro e w' ⟨rfl, rfl⟩
      go_wp2_with fail
      go_round
      case rel => exact ⟨k + 1, by omega, rfl, by go_num⟩
      case measure => simp [intOf]; omega
    · obtain rfl : k = xs.length := by omega
      rw [List.take_of_length_le (Nat.le_refl _)]
      go_wp2_with fail
      go_ret
      exact ⟨rfl, rfl⟩

theorem isOdd_any (p b : Nat) (x : Nat) (xs rest : List Nat) (w : World) (hx : NatAt w p b (x :: xs) rest) (_hn : (x :: xs).length + rest.length ≤ 1000000) :
    Calls Tryz.prog 60 #[.pointer (some ⟨p, 0, none⟩)] w fun e w' => e = .returned (.int .u64 ((x % 2 : Nat) : Int)) ∧ w = w' := by
  have c1 := hx.cell
  have cx := hx.limb 0 (by simp)
  have hlt : x < 18446744073709551616 := hx.2.2.1 x (List.mem_cons_self ..)
  have ha := bits_and_u64_nat x 1 hlt (by omega)
  rw [Nat.and_one_is_mod] at ha
  simp only [List.getElem_cons_zero] at cx
  have hl : (x :: xs).length = xs.length + 1 := rfl
  rw [hl] at c1
  clear hx hl
  go_enter Tryz.func60, Tryz.ntmps60
  go_wp2_with fail
  go_ret
  exact ⟨by rw [← ha]; rfl, rfl⟩

theorem isOne_any (p b : Nat) (x : Nat) (xs rest : List Nat) (w : World) (hx : NatAt w p b (x :: xs) rest) (hn : (x :: xs).length + rest.length ≤ 1000000) :
    Calls Tryz.prog 80 #[.pointer (some ⟨p, 0, none⟩)] w fun e w' => e = .returned (.int .u64 (bitN (decide (val (x :: xs) = 1)) : Int)) ∧ w = w' := by
  obtain ⟨ys, hys⟩ : ∃ ys, x :: xs = ys := ⟨_, rfl⟩
  have hl1 : 1 ≤ ys.length := by rw [← hys]; simp
  have hl0 : ¬ ys.length = 0 := by omega
  have c1 := hx.cell
  have cx := hx.limb 0 (by simp)
  simp only [List.getElem_cons_zero] at cx
  have hlt : x < 18446744073709551616 := hx.2.2.1 x (List.mem_cons_self ..)
  have hc := ctEq_bit x 1 hlt (by omega) w
  have hv1 : val (ys.take 1) = x := by rw [← hys]; simp [val]
  rw [← hv1] at hc
  rw [← hv1] at cx
  rw [hys] at hx c1 hn ⊢
  have HX := Lib.hid hx
  have HC := Lib.hid hc
  have HV1 := Lib.hid hv1
  clear hx hc hv1 hys hlt
  go_enter Tryz.func80, Tryz.ntmps80
  go_wp2_with fail
  refine HC.out.mono ?_
  rintro e w' ⟨rfl, rfl⟩
  clear HC cx
  go_wp2_with fail
  go_loop [5, 6] (fun zv iv => ∃ (k : Nat), 1 ≤ k ∧ k ≤ ys.length ∧ zv = .int .u64 (bitN (decide (val (ys.take k) = 1)) : Int) ∧ iv = .int .i64 k) (fun _ i => ys.length - (intOf i).toNat)
  case atStart => exact ⟨1, Nat.le_refl _, hl1, rfl, rfl⟩
  case round =>
    obtain ⟨k, hk1, hk, rfl, rfl⟩ := hrel
    by_cases hlt : k < ys.length
    · have cx := HX.out.limb k hlt
      have hc := ctEq_bit ys[k] 0 (HX.out.2.2.1.get k hlt) (by omega) w
      have ha := bitN_and (decide (val (ys.take k) = 1)) (decide (ys[k] = 0))
      have hv : (decide (val (ys.take k) = 1) && decide (ys[k] = 0)) = decide (val (ys.take (k + 1)) = 1) := by
        rw [val_take_succ ys k hlt, Bool.eq_iff_iff, Bool.and_eq_true, decide_eq_true_iff, decide_eq_true_iff, decide_eq_true_iff]
        have h2 : 2 ≤ Pw k := by have := Pw_le hk1; rw [Pw_one] at this; omega
        constructor
        · rintro ⟨h1, h2⟩; rw [h1, h2]; omega
        · intro h
          have : ys[k] = 0 := by
            rcases Nat.eq_zero_or_pos ys[k] with h0 | h0
            · exact h0
            · have := Nat.mul_le_mul h2 h0; omega
          rw [this] at h
          exact ⟨by omega, this⟩
      rw [hv] at ha
      have HC := Lib.hid hc
      clear hc hv
      go_wp2_with fail
      refine HC.out.mono ?_
      rintro e w' ⟨rfl, rfl⟩
      go_wp2_with fail
      go_round
      case rel => exact ⟨k + 1, by omega, by omega, rfl, by go_num⟩
      case measure => simp [intOf]; omega
    · obtain rfl : k = ys.length := by omega
      rw [List.take_of_length_le (Nat.le_refl _)]
      go_wp2_with fail
      go_ret
      exact ⟨rfl, rfl⟩

end Go.Proofs.YtdmpiecdpdknaaaGreatDoor
namespace Go.Proofs.YtdmpiecdpdknaaaGreatDoor
open Go.RowKit

theorem val_take_eq (xs ys : List Nat) (hx : Wd xs) (hy : Wd ys) (k : Nat) (hkx : k < xs.length) (hky : k < ys.length) :
    (decide (val (xs.take k) = val (ys.take k)) && decide (xs[k] = ys[k])) = decide (val (xs.take (k + 1)) = val (ys.take (k + 1))) := by
  rw [val_take_succ xs k hkx, val_take_succ ys k hky, Bool.eq_iff_iff, Bool.and_eq_true, decide_eq_true_iff, decide_eq_true_iff, decide_eq_true_iff]
  have h1 := val_lt _ (hx.take k)
  have h2 := val_lt _ (hy.take k)
  rw [List.length_take, Nat.min_eq_left (by omega)] at h1 h2
  constructor
  · rintro ⟨a, b⟩; rw [a, b]
  · intro h
    have e : xs[k] = ys[k] := by
      have a := congrArg (· / Pw k) h
      simp only [Nat.add_mul_div_left _ _ (Pw_pos k), Nat.div_eq_of_lt h1, Nat.div_eq_of_lt h2, Nat.zero_add] at a
      exact a
    rw [e] at h
    exact ⟨by omega, e⟩

theorem equal_any (p b p' b' : Nat) (xs rest ys rest' : List Nat) (w : World) (hx : NatAt w p b xs rest) (hy : NatAt w p' b' ys rest') (hl : xs.length = ys.length) (hn' : ys.length + rest'.length ≤ 1000000) :
    Calls Tryz.prog 69 #[.pointer (some ⟨p, 0, none⟩), .pointer (some ⟨p', 0, none⟩)] w fun e w' =>
      e = .returned (.int .u64 (bitN (decide (val xs = val ys)) : Int)) ∧ Kept NoBlk w w' := by
  have c1 := hx.cell
  have c2 := hy.cell
  have HX := Lib.hid hx
  have HY := Lib.hid hy
  have HL := Lib.hid hl
  have hle : xs.length ≤ ys.length + rest'.length := by omega
  clear hx hy hl
  go_enter Tryz.func69, Tryz.ntmps69
  go_wp2_with fail
  go_loopw [8, 9] (fun ev iv wr => ∃ (k : Nat), k ≤ xs.length ∧ ev = .int .u64 (bitN (decide (val (xs.take k) = val (ys.take k))) : Int) ∧ iv = .int .i64 k ∧ Kept NoBlk w wr) (fun _ i _ => xs.length - (intOf i).toNat)
  case atStart => exact ⟨0, Nat.zero_le _, rfl, rfl, Kept.refl _ _⟩
  case round =>
    obtain ⟨k, hk, rfl, rfl, hkept⟩ := hrel
    by_cases hlt : k < xs.length
    · have hkl : k < ys.length := by have := HL.out; omega
      have cx := (HX.out.still hkept).limb k hlt
      have cy := (HY.out.still hkept).limb k hkl
      have hc := ctEq_bit xs[k] ys[k] (HX.out.2.2.1.get k hlt) (HY.out.2.2.1.get k hkl)
      have ha := bitN_and (decide (val (xs.take k) = val (ys.take k))) (decide (xs[k] = ys[k]))
      rw [val_take_eq xs ys HX.out.2.2.1 HY.out.2.2.1 k hlt hkl] at ha
      have HC := Lib.hid hc
      have HK := Lib.hid hkept
      clear hc hkept
      go_wp2_with fail
      go_quiet ((go_at_call 88; refine Calls.quiet_of_same ((HC.out _).mono fun e w' h => ⟨h.1, h.2.symm⟩)))
      go_wp2_with fail
      go_roundw
      case rel => exact ⟨k + 1, by omega, rfl, by go_num, HK.out.drewN _⟩
      case measure => simp [intOf]; omega
    · obtain rfl : k = xs.length := by omega
      have hl := HL.out
      rw [List.take_of_length_le (Nat.le_refl _), hl, List.take_of_length_le (Nat.le_refl _)]
      have HK := Lib.hid hkept
      clear hkept hl
      go_wp2_with fail
      go_ret
      exact ⟨rfl, HK.out⟩

theorem cmpGeq_any (p b p' b' : Nat) (xs rest ys rest' : List Nat) (w : World) (hx : NatAt w p b xs rest) (hy : NatAt w p' b' ys rest') (hl : xs.length = ys.length) (hn' : ys.length + rest'.length ≤ 1000000) :
    Calls Tryz.prog 55 #[.pointer (some ⟨p, 0, none⟩), .pointer (some ⟨p', 0, none⟩)] w fun e w' =>
      e = .returned (.int .u64 (bitN (decide (val ys ≤ val xs)) : Int)) ∧ Kept NoBlk w w' := by
  have c1 := hx.cell
  have c2 := hy.cell
  have HX := Lib.hid hx
  have HY := Lib.hid hy
  have HL := Lib.hid hl
  have hle : xs.length ≤ ys.length + rest'.length := by omega
  clear hx hy hl
  go_enter Tryz.func55, Tryz.ntmps55
  go_wp2_with fail
  go_loopw [8, 9] (fun cv iv wr => ∃ (k c v : Nat), k ≤ xs.length ∧ cv = .int .u64 c ∧ iv = .int .i64 k ∧ c ≤ 1 ∧ v < Pw k ∧ v + val (ys.take k) = val (xs.take k) + Pw k * c ∧ Kept NoBlk w wr) (fun _ i _ => xs.length - (intOf i).toNat)
  case atStart => exact ⟨0, 0, 0, Nat.zero_le _, rfl, rfl, by omega, Pw_pos 0, by simp [val], Kept.refl _ _⟩
  case round =>
    obtain ⟨k, c, v, hk, rfl, rfl, hc, hvl, hv, hkept⟩ := hrel
    by_cases hlt : k < xs.length
    · have hkl : k < ys.length := by have := HL.out; omega
      have cx := (HX.out.still hkept).limb k hlt
      have cy := (HY.out.still hkept).limb k hkl
      have wx : xs[k] < 18446744073709551616 := HX.out.2.2.1.get k hlt
      have wy : ys[k] < 18446744073709551616 := HY.out.2.2.1.get k hkl
      obtain ⟨s, c', hs, hsl⟩ : ∃ s c', xs[k] + 18446744073709551616 * c' = s + ys[k] + c ∧ s < 18446744073709551616 := ⟨(xs[k] + 18446744073709551616 + 18446744073709551616 - ys[k] - c) % 18446744073709551616, if xs[k] < ys[k] + c then 1 else 0, by split <;> omega, by omega⟩
      have hsub := bitsSub_is xs[k] ys[k] c s c' hc hsl wx wy hs
      have hc' : c' ≤ 1 := by omega
      have hv' : (v + Pw k * s) + val (ys.take (k + 1)) = val (xs.take (k + 1)) + Pw (k + 1) * c' := by
        rw [val_take_succ xs k hlt, val_take_succ ys k hkl, Pw_succ]
        have : Pw k * xs[k] + Pw k * (18446744073709551616 * c') = Pw k * s + Pw k * ys[k] + Pw k * c := by
          rw [← Nat.mul_add, ← Nat.mul_add, ← Nat.mul_add, hs]
        rw [Nat.mul_comm 18446744073709551616 (Pw k), Nat.mul_assoc]; omega
      have hvl' : v + Pw k * s < Pw (k + 1) := by
        rw [Pw_succ]
        have := Nat.mul_le_mul_left (Pw k) (show s ≤ 18446744073709551615 by omega)
        omega
      have HSUB := Lib.hid hsub
      have HV := Lib.hid hv'
      have HVL := Lib.hid hvl'
      have HK := Lib.hid hkept
      clear hsub hv' hvl' hkept hs hv hvl
      go_wp2_with fail
      go_quiet ((go_at_call 84; refine Calls.quiet_of_same ((HSUB.out _).mono fun e w' h => ⟨h.1, h.2.symm⟩)))
      go_wp2_with fail
      go_roundw
      case rel => exact ⟨k + 1, c', _, by omega, rfl, by go_num, hc', HVL.out, HV.out, HK.out.drewN _⟩
      case measure => simp [intOf]; omega
    · obtain rfl : k = xs.length := by omega
      have hl := HL.out
      rw [List.take_of_length_le (Nat.le_refl _), hl, List.take_of_length_le (Nat.le_refl _)] at hv
      have hn := not_is c hc
      have hxl := val_lt xs HX.out.2.2.1
      rw [hl] at hxl hvl
      have he : 1 - c = bitN (decide (val ys ≤ val xs)) := by
        have : c = 0 ∨ c = 1 := by omega
        rcases this with rfl | rfl
        · rw [decide_eq_true (by omega)]; rfl
        · rw [decide_eq_false (by omega)]; rfl
      rw [he] at hn
      have HN := Lib.hid hn
      have HK := Lib.hid hkept
      clear hkept hl hn he hxl hv hvl
      go_wp2_with fail
      refine (HN.out _).mono ?_
      rintro e w' ⟨rfl, rfl⟩
      go_wp2_with fail
      go_ret
      exact ⟨rfl, HK.out⟩

theorem mask_step (c x y : Nat) (hc : c ≤ 1) (hx : x < 18446744073709551616) (hy : y < 18446744073709551616) :
    bits .xor .u64 (x : Int) (y : Int) = ((x ^^^ y : Nat) : Int) ∧ bits .and .u64 (maskOf c : Int) ((x ^^^ y : Nat) : Int) = ((if c = 1 then x ^^^ y else 0 : Nat) : Int) ∧
    bits .xor .u64 (x : Int) ((if c = 1 then x ^^^ y else 0 : Nat) : Int) = ((if c = 1 then y else x : Nat) : Int) := by
  have hxy : x ^^^ y < 18446744073709551616 := Nat.xor_lt_two_pow (n := 64) (by omega) (by omega)
  refine ⟨bits_xor_u64_nat x y hx hy, ?_, ?_⟩
  · rw [bits_and_u64_nat _ _ (by unfold maskOf; omega) hxy]
    have : c = 0 ∨ c = 1 := by omega
    rcases this with rfl | rfl
    · simp [maskOf]
    · rw [if_pos rfl, maskOf, Nat.one_mul, Nat.and_comm, show (18446744073709551615 : Nat) = 2 ^ 64 - 1 from rfl, Nat.and_two_pow_sub_one_eq_mod, Nat.mod_eq_of_lt (by omega)]
  · have : c = 0 ∨ c = 1 := by omega
    rcases this with rfl | rfl
    · rw [if_neg (by decide), if_neg (by decide), bits_xor_u64_nat x 0 hx (by omega), Nat.xor_zero]
    · rw [if_pos rfl, if_pos rfl, bits_xor_u64_nat x _ hx hxy, ← Nat.xor_assoc, Nat.xor_self, Nat.zero_xor]

/-- The one or the other. -/
def sel (c : Nat) (ys xs : List Nat) : List Nat := if c = 1 then ys else xs
theorem sel_one (ys xs : List Nat) : sel 1 ys xs = ys := rfl
theorem sel_zero (ys xs : List Nat) : sel 0 ys xs = xs := rfl

theorem assign_any (p b p' b' c : Nat) (xs rest ys rest' : List Nat) (w : World) (hc : c ≤ 1) (hx : NatAt w p b xs rest) (hy : NatAt w p' b' ys rest') (hl : xs.length = ys.length) (hb : b ≠ b' ∨ b = b' ∧ xs = ys) (hn' : ys.length + rest'.length ≤ 1000000) :
    Calls Tryz.prog 87 #[.pointer (some ⟨p, 0, none⟩), .int .u64 c, .pointer (some ⟨p', 0, none⟩)] w fun e w' =>
      e = .returned (.pointer (some ⟨p, 0, none⟩)) ∧ NatAt w' p b (sel c ys xs) rest ∧ Kept (OneBlk b) w w' := by
  have c1 := hx.cell
  have c2 := hy.cell
  have HX := Lib.hid hx
  have HY := Lib.hid hy
  have HL := Lib.hid hl
  have HB := Lib.hid hb
  have hle : xs.length ≤ ys.length + rest'.length := by omega
  have hm := ctMask_is c hc w
  have HM := Lib.hid hm
  clear hx hy hl hb hm
  go_enter Tryz.func87, Tryz.ntmps87
  go_wp2_with fail
  refine HM.out.mono ?_
  rintro e w' ⟨rfl, rfl⟩
  clear HM
  go_wp2_with fail
  go_loopw [11] (fun iv wr => ∃ (k : Nat), k ≤ xs.length ∧ iv = .int .i64 k ∧ Mid wr b ((sel c ys xs).take k) (xs ++ rest) k ∧ Kept (OneBlk b) w wr) (fun i _ => xs.length - (intOf i).toNat)
  case atStart => exact ⟨0, Nat.zero_le _, rfl, HX.out.mid, Kept.refl _ _⟩
  case round =>
    obtain ⟨k, hk, rfl, hm, hkept⟩ := hrel
    have hz : ((sel c ys xs).take k).length = k := by
      have := HL.out
      unfold sel
      split <;> simp <;> omega
    by_cases hlt : k < xs.length
    · have cy := other_limb HX.out HY.out HL.out HB.out hm hkept hz hlt
      have cx := hm.cell hz (by simp; omega)
      rw [List.getElem_append_left hlt] at cx
      have hkl : k < ys.length := by have := HL.out; omega
      have wx : xs[k] < 18446744073709551616 := HX.out.2.2.1.get k hlt
      have wy : ys[k] < 18446744073709551616 := HY.out.2.2.1.get k hkl
      obtain ⟨m1, m2, m3⟩ := mask_step c xs[k] ys[k] hc wx wy
      obtain ⟨q, hq⟩ : ∃ q : Nat, (if c = 1 then xs[k] ^^^ ys[k] else 0) = q := ⟨_, rfl⟩
      obtain ⟨r, hr⟩ : ∃ r : Nat, xs[k] ^^^ ys[k] = r := ⟨_, rfl⟩
      obtain ⟨z, hzv⟩ : ∃ z : Nat, (if c = 1 then ys[k] else xs[k]) = z := ⟨_, rfl⟩
      rw [hr] at m1
      rw [hq] at m3
      rw [hq, hr] at m2
      rw [hzv] at m3
      have hf := hm.frozen k
      have hset := fun w' h => hm.set hz (by simp; omega) z (w' := w') h
      have htk : (sel c ys xs).take k ++ [z] = (sel c ys xs).take (k + 1) := by
        rw [← hzv]
        unfold sel
        split
        · rw [List.take_succ_eq_append_getElem hkl]
        · rw [List.take_succ_eq_append_getElem hlt]
      rw [htk] at hset
      have HSET := Lib.hid hset
      have HK := Lib.hid hkept
      clear hset hz hkept hm hq hr hzv htk
      go_wp2_with fail
      go_region
      all_goals go_wp2_with fail
      all_goals
        go_roundw
        case rel => exact ⟨k + 1, by omega, by go_num, (HSET.out _ rfl).drew, (HK.out.setOne _ _).drew⟩
        case measure => simp [intOf]; omega
    · obtain rfl : k = xs.length := by omega
      have htk : (sel c ys xs).take xs.length = sel c ys xs := by
        have := HL.out
        unfold sel
        split
        · rw [this, List.take_of_length_le (Nat.le_refl _)]
        · rw [List.take_of_length_le (Nat.le_refl _)]
      rw [htk] at hm hz
      have hww : Wd (sel c ys xs) := by
        unfold sel
        split
        · exact HY.out.2.2.1
        · exact HX.out.2.2.1
      have HD := Lib.hid (hm.done HX.out hkept hz hww)
      have HK := Lib.hid hkept
      clear hm hkept hz hww htk
      go_wp2_with fail
      go_ret
      exact ⟨rfl, HD.out, HK.out⟩

end Go.Proofs.YtdmpiecdpdknaaaGreatDoor
