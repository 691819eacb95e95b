/-
  Numbers and moduli in memory, by their values: at most 32 words, their row just ahead of their header.
-/
import Derived.Test.YtmheoenieaemmaaNewMod
import Derived.Test.YtmheoenieaemmaaNatOut
namespace Go.Proofs.Ytmheoenieaemmaa
open Go.RowKit

/-- The number v in n words, its header in block p. -/
def Nm (w : World) (p n v : Nat) : Prop := ∃ xs rest, NatAt w p (p - 1) xs rest ∧ 1 ≤ p ∧ xs.length = n ∧ n + rest.length = 32 ∧ val xs = v
/-- The blocks of the number at p. -/
def At2 (p : Nat) : Nat → Prop := fun k => k = p ∨ k = p - 1

section
variable {w w' : World} {S : Nat → Prop} {p p' n n' v v' : Nat}
theorem Nm.lt (h : Nm w p n v) : 1 ≤ p ∧ p < w.heap.size := by
  obtain ⟨xs, rest, h, h1, _⟩ := h
  exact ⟨h1, h.lt.1⟩
theorem Nm.kept (h : Nm w p n v) (k : Kept S w w') (h1 : ¬ S p) (h2 : ¬ S (p - 1)) : Nm w' p n v := by
  obtain ⟨xs, rest, h, r⟩ := h
  exact ⟨xs, rest, h.kept k h1 h2, r⟩
theorem Nm.still (h : Nm w p n v) (k : Kept NoBlk w w') : Nm w' p n v := h.kept k (fun e => e) (fun e => e)
theorem Nm.away (h : Nm w p' n' v') (hx : Nm w p n v) (hne : p' ≠ p) (k : Kept (At2 p) w w') : Nm w' p' n' v' := by
  obtain ⟨xs, rest, hx, h1, _⟩ := hx
  obtain ⟨ys, rest', hy, h1', r⟩ := h
  exact ⟨ys, rest', hy.away hx hne (by omega) k, h1', r⟩
/-- A step that turns another number's blocks, or new ones. -/
theorem Nm.far (h : Nm w p n v) (k : Kept (At2 p') w w') (hp : w.heap.size < p') : Nm w' p n v := by
  have := h.lt
  exact h.kept k (fun e => by unfold At2 at e; omega) (fun e => by unfold At2 at e; omega)
theorem Nm.drew (h : Nm w p n v) : Nm w.drew p n v := h
theorem Nm.drewN (h : Nm w p n v) (k : Nat) : Nm (w.drewN k) p n v := h
theorem Nm.alloc (h : Nm w p n v) (o : Obj) : Nm (w.alloc o) p n v := h.still ((Kept.refl _ w).alloc o)
theorem Nm.bound (h : Nm w p n v) : v < Pw n ∧ n ≤ 32 := by
  obtain ⟨xs, rest, h, _, rfl, h32, rfl⟩ := h
  exact ⟨val_lt xs h.2.2.1, by omega⟩
theorem Nm.same (h : Nm w p n v) (h' : Nm w p n' v') : n = n' ∧ v = v' := by
  obtain ⟨xs, rest, h, h1, rfl, h32, rfl⟩ := h
  obtain ⟨ys, rest', h', h1', rfl, h32', rfl⟩ := h'
  have e := (h.1.same h'.1).2
  simp at e
  have e2 := (h.2.1.same h'.2.1).2
  have e3 : (xs ++ rest).map U = (ys ++ rest').map U := by simpa using e2
  have e4 : xs.map U = ys.map U := by
    have := congrArg (List.take xs.length) e3
    rw [List.map_append, List.map_append, List.take_left' (by simp), List.take_left' (by simpa using e.1.symm)] at this
    exact this
  have : xs = ys := by
    have hinj : ∀ a b : Nat, U a = U b → a = b := fun a b h => by
      unfold U at h; injection h with _ h; omega
    clear e e2 e3 h h' h32 h32'
    induction xs generalizing ys with
    | nil => cases ys with
      | nil => rfl
      | cons y ys => simp at e4
    | cons x xs ih => cases ys with
      | nil => simp at e4
      | cons y ys =>
        simp only [List.map_cons, List.cons.injEq] at e4
        rw [hinj x y e4.1, ih _ e4.2]
  subst this
  exact ⟨rfl, rfl⟩
end

theorem At2.both (p : Nat) : At2 p = Both p (p - 1) := rfl

/-- The modulus m of n words, its header in block q, its number at pn, and where it is odd R times R at pr. -/
def Md (w : World) (q pn pr n m : Nat) : Prop :=
  1 < m ∧ 1 ≤ n ∧ Pw (n - 1) ≤ m ∧ Nm w pn n m ∧ ∃ (mi : Nat) (rv : Value), Blk w q 88 #[.pointer (some ⟨pn, 0, none⟩), .bool (m % 2 == 1), .int .u64 mi, rv] ∧
    mi < 18446744073709551616 ∧ (m % 2 = 1 → m * mi % 18446744073709551616 = 18446744073709551615 ∧ rv = .pointer (some ⟨pr, 0, none⟩) ∧ Nm w pr n (Pw n * Pw n % m))

section
variable {w w' : World} {S : Nat → Prop} {q pn pr n m p n' v' : Nat}
theorem Md.kept (h : Md w q pn pr n m) (k : Kept S w w') (h1 : ¬ S q) (h2 : ¬ S pn) (h3 : ¬ S (pn - 1)) (h4 : ¬ S pr) (h5 : ¬ S (pr - 1)) : Md w' q pn pr n m := by
  obtain ⟨a, b, c, d, mi, rv, e, f, g⟩ := h
  exact ⟨a, b, c, d.kept k h2 h3, mi, rv, e.kept k h1, f, fun ho => ⟨(g ho).1, (g ho).2.1, (g ho).2.2.kept k h4 h5⟩⟩
theorem Md.still (h : Md w q pn pr n m) (k : Kept NoBlk w w') : Md w' q pn pr n m := h.kept k (fun e => e) (fun e => e) (fun e => e) (fun e => e) (fun e => e)
theorem Md.away (h : Md w q pn pr n m) (hx : Nm w p n' v') (h1 : pn ≠ p) (h2 : pr ≠ p) (k : Kept (At2 p) w w') : Md w' q pn pr n m := by
  obtain ⟨a, b, c, d, mi, rv, e, f, g⟩ := h
  obtain ⟨xs, rest, hx0, hx1, _⟩ := id hx
  exact ⟨a, b, c, d.away hx h1 k, mi, rv, e.kept k (fun z => z.elim (e.ne_ hx0.1 (by decide)) (e.ne_ hx0.2.1 (by decide))), f, fun ho => ⟨(g ho).1, (g ho).2.1, (g ho).2.2.away hx h2 k⟩⟩
theorem Md.ltq (h : Md w q pn pr n m) : q < w.heap.size ∧ pn < w.heap.size ∧ 1 ≤ pn := by
  obtain ⟨a, b, c, d, mi, rv, e, _⟩ := h
  exact ⟨e.lt, d.lt.2, d.lt.1⟩
theorem Md.ltr (h : Md w q pn pr n m) (ho : m % 2 = 1) : pr < w.heap.size ∧ 1 ≤ pr := by
  obtain ⟨a, b, c, d, mi, rv, e, f, g⟩ := h
  exact ⟨(g ho).2.2.lt.2, (g ho).2.2.lt.1⟩
theorem Md.n32 (h : Md w q pn pr n m) : n ≤ 32 := h.2.2.2.1.bound.2
theorem Md.mlt (h : Md w q pn pr n m) : m < Pw n := h.2.2.2.1.bound.1
theorem Md.drew (h : Md w q pn pr n m) : Md w.drew q pn pr n m := h
theorem Md.drewN (h : Md w q pn pr n m) (k : Nat) : Md (w.drewN k) q pn pr n m := h
/-- The modulus as the contracts of its words have it. -/
theorem Md.modAt (h : Md w q pn pr n m) : ∃ ms mr mi rv, ModAt w q pn (pn - 1) ms mr (m % 2 == 1) mi rv ∧ ms.length = n ∧ n + mr.length = 32 ∧ val ms = m ∧ mi < 18446744073709551616 ∧
    (m % 2 = 1 → ms.headD 0 * mi % 18446744073709551616 = 18446744073709551615 ∧ rv = .pointer (some ⟨pr, 0, none⟩) ∧ Nm w pr n (Pw n * Pw n % m)) := by
  obtain ⟨a, b, c, ⟨ms, mr, d, d1, d2, d3, d4⟩, mi, rv, e, f, g⟩ := h
  refine ⟨ms, mr, mi, rv, ⟨e, d⟩, d2, d3, d4, f, fun ho => ⟨?_, (g ho).2.1, (g ho).2.2⟩⟩
  have h1 := (g ho).1
  cases ms with
  | nil => simp at d2; omega
  | cons x xs =>
    rw [← d4, val, Nat.add_mul, Nat.mul_assoc, Nat.add_mul_mod_self_left] at h1
    exact h1
end

/-- What an operation on the number at p leaves there. -/
def NmOut (p n v : Nat) (w : World) (e : Ending) (w' : World) : Prop := e = .returned (.pointer (some ⟨p, 0, none⟩)) ∧ Nm w' p n v ∧ Kept (At2 p) w w'

theorem Sized.nm {p : Nat} {zs : List Nat} {capOld n v : Nat} {w w' : World} {e : Ending} (h : Sized p (p - 1) zs capOld w e w') (h1 : 1 ≤ p) (hc : capOld = 32) (hn : n ≤ 32) (hz : zs.length = n) (hv : val zs = v) : NmOut p n v w e w' := by
  obtain ⟨rfl, b', rest', h2, h3, _, h5⟩ := h
  rcases h3 with h3 | h3
  · obtain ⟨rfl, h4⟩ := h3
    exact ⟨rfl, ⟨zs, rest', h2, h1, hz, by omega, hv⟩, h5⟩
  · omega

theorem newNat_nm (w : World) : Calls Try.prog 49 #[] w fun e w' => e = .returned (.pointer (some ⟨w.heap.size + 1, 0, none⟩)) ∧ Nm w' (w.heap.size + 1) 0 0 ∧ Kept NoBlk w w' := by
  refine (newNat_any w).mono ?_
  rintro e w' ⟨rfl, h, k⟩
  exact ⟨rfl, ⟨[], noughts 32, h, by omega, rfl, by rw [noughts_length], rfl⟩, k⟩

end Go.Proofs.Ytmheoenieaemmaa
