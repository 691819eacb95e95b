/-
  bigmod's operations told by the numbers' values.
-/
import Derived.Test.YtmheoenieaemmaaNm
namespace Go.Proofs.Ytmheoenieaemmaa
open Go.RowKit

section
variable {w w' : World} {p q pn pr n m v : Nat}
theorem Nm.open_ (h : Nm w p n v) : ∃ xs rest, NatAt w p (p - 1) xs rest ∧ 1 ≤ p ∧ xs.length = n ∧ xs.length + rest.length = 32 ∧ val xs = v := by
  obtain ⟨xs, rest, a, b, c, d, e⟩ := h
  exact ⟨xs, rest, a, b, c, by omega, e⟩
theorem Nm.fresh_lt (h : Nm w p n v) : p < w.heap.size := h.lt.2
/-- An operation on a number of the call's own. -/
theorem At2.new {S : Nat → Prop} {w0 : World} (k : Kept S w0 w) (k2 : Kept (At2 p) w w') (h : w0.heap.size < p) : Kept S w0 w' :=
  k.step k2 (fun i hi e => by unfold At2 at e; omega)
theorem At2.trans {w0 : World} (k : Kept (At2 p) w0 w) (k2 : Kept (At2 p) w w') : Kept (At2 p) w0 w' := k.trans k2
theorem At2.one (p : Nat) (k : Kept (OneBlk (p - 1)) w w') : Kept (At2 p) w w' := k.mono (fun _ _ e => .inr e)
theorem At2.hdr (p : Nat) (k : Kept (OneBlk p) w w') : Kept (At2 p) w w' := k.mono (fun _ _ e => .inl e)
theorem At2.of (p : Nat) (k : Kept NoBlk w w') : Kept (At2 p) w w' := k.mono (fun _ _ e => e.elim)
end

/-- A new number: what NewNat, Modulus.Nat and their like leave. -/
def NmNew (n v : Nat) (w : World) (e : Ending) (w' : World) : Prop := e = .returned (.pointer (some ⟨w.heap.size + 1, 0, none⟩)) ∧ Nm w' (w.heap.size + 1) n v ∧ Kept NoBlk w w'

theorem modNat_nm (q pn pr n m : Nat) (w : World) (hm : Md w q pn pr n m) : Calls Try.prog 44 #[.pointer (some ⟨q, 0, none⟩)] w (NmNew n m w) := by
  have h32 := hm.n32
  obtain ⟨ms, mr, mi, rv, h, h1, h2, h3, _⟩ := hm.modAt
  refine (modNat_any q pn (pn - 1) ms mr _ mi rv w h (by omega)).mono ?_
  rintro e w' ⟨p, b, rest, rfl, a1, a2, a3, a4, a5, k⟩
  obtain ⟨rfl, rfl, c⟩ := a5 (by omega)
  exact ⟨rfl, ⟨ms, rest, a3, by omega, h1, by omega, h3⟩, k⟩

theorem resetFor_nm (p q pn pr n0 v n m : Nat) (w : World) (hx : Nm w p n0 v) (hm : Md w q pn pr n m) : Calls Try.prog 60 #[.pointer (some ⟨p, 0, none⟩), .pointer (some ⟨q, 0, none⟩)] w (NmOut p n 0 w) := by
  have h32 := hm.n32
  obtain ⟨xs, rest, x1, x2, x3, x4, x5⟩ := hx.open_
  obtain ⟨ms, mr, mi, rv, h, h1, h2, h3, _⟩ := hm.modAt
  refine (resetFor_any p (p - 1) q pn (pn - 1) xs rest ms mr _ mi rv w x1 h (by omega)).mono ?_
  intro e w' hs
  exact hs.nm x2 x4 h32 (by rw [noughts_length]; exact h1) (val_noughts _)

theorem expandFor_nm (p q pn pr n0 v n m : Nat) (w : World) (hx : Nm w p n0 v) (hm : Md w q pn pr n m) (hn : n0 ≤ n) : Calls Try.prog 86 #[.pointer (some ⟨p, 0, none⟩), .pointer (some ⟨q, 0, none⟩)] w (NmOut p n v w) := by
  have h32 := hm.n32
  obtain ⟨xs, rest, x1, x2, x3, x4, x5⟩ := hx.open_
  obtain ⟨ms, mr, mi, rv, h, h1, h2, h3, _⟩ := hm.modAt
  refine (expandFor_any p (p - 1) q pn (pn - 1) xs rest ms mr _ mi rv w x1 h (by omega) (by omega)).mono ?_
  intro e w' hs
  refine hs.nm x2 x4 h32 (by rw [List.length_append, noughts_length]; omega) ?_
  rw [val_append, val_noughts, Nat.mul_zero, Nat.add_zero, x5]

theorem set_nm (p p' n0 v0 n v : Nat) (w : World) (hx : Nm w p n0 v0) (hy : Nm w p' n v) (hne : p' ≠ p) : Calls Try.prog 56 #[.pointer (some ⟨p, 0, none⟩), .pointer (some ⟨p', 0, none⟩)] w (NmOut p n v w) := by
  obtain ⟨xs, rest, x1, x2, x3, x4, x5⟩ := hx.open_
  obtain ⟨ys, rest', y1, y2, y3, y4, y5⟩ := hy.open_
  refine (set_any p (p - 1) p' (p' - 1) xs rest ys rest' w x1 y1 hne (by omega) (by omega)).mono ?_
  intro e w' hs
  exact hs.nm x2 x4 (by omega) y3 y5

theorem add_nm (p p' q pn pr n m v v' : Nat) (w : World) (hx : Nm w p n v) (hy : Nm w p' n v') (hm : Md w q pn pr n m) (hpn : pn ≠ p) (h1 : v < m) (h2 : v' < m) :
    Calls Try.prog 96 #[.pointer (some ⟨p, 0, none⟩), .pointer (some ⟨p', 0, none⟩), .pointer (some ⟨q, 0, none⟩)] w (NmOut p n ((v + v') % m) w) := by
  have h32 := hm.n32
  obtain ⟨ms, mr, mi, rv, h, a1, a2, a3, _⟩ := hm.modAt
  have hpm := hm.ltq.2.2
  have hxy : p = p' → n = n ∧ v = v' := fun e => by subst e; exact hx.same hy
  obtain ⟨xs, rest, x1, x2, x3, x4, x5⟩ := hx.open_
  obtain ⟨ys, rest', y1, y2, y3, y4, y5⟩ := hy.open_
  have hb : p - 1 ≠ p' - 1 ∨ p - 1 = p' - 1 ∧ xs = ys := by
    by_cases e : p = p'
    · have := (hxy e).2
      exact .inr ⟨by omega, val_inj x1.2.2.1 y1.2.2.1 (by omega) (by omega)⟩
    · exact .inl (by omega)
  refine (modAdd_any p (p - 1) p' (p' - 1) q pn (pn - 1) xs rest ys rest' ms mr _ mi rv w x1 y1 h hb (by omega) (by omega) (by omega) (by omega) (by omega) (by omega) (by omega)).mono ?_
  rintro e w' ⟨rfl, zs, z1, z2, z3, z4⟩
  exact ⟨rfl, ⟨zs, rest, z2, x2, by omega, by omega, by rw [z4, x5, y5, a3]⟩, At2.one p z3⟩

theorem sub_nm (p p' q pn pr n m v v' : Nat) (w : World) (hx : Nm w p n v) (hy : Nm w p' n v') (hm : Md w q pn pr n m) (hpn : pn ≠ p) (hne : p ≠ p') (h1 : v < m) (h2 : v' < m) :
    Calls Try.prog 88 #[.pointer (some ⟨p, 0, none⟩), .pointer (some ⟨p', 0, none⟩), .pointer (some ⟨q, 0, none⟩)] w (NmOut p n ((v + m - v') % m) w) := by
  have h32 := hm.n32
  obtain ⟨ms, mr, mi, rv, h, a1, a2, a3, _⟩ := hm.modAt
  have hpm := hm.ltq.2.2
  obtain ⟨xs, rest, x1, x2, x3, x4, x5⟩ := hx.open_
  obtain ⟨ys, rest', y1, y2, y3, y4, y5⟩ := hy.open_
  refine (modSub_any p (p - 1) p' (p' - 1) q pn (pn - 1) xs rest ys rest' ms mr _ mi rv w x1 y1 h (.inl (by omega)) (by omega) (by omega) (by omega) (by omega) (by omega) (by omega) (by omega)).mono ?_
  rintro e w' ⟨rfl, zs, z1, z2, z3, z4⟩
  exact ⟨rfl, ⟨zs, rest, z2, x2, by omega, by omega, by rw [z4, x5, y5, a3]⟩, At2.one p z3⟩

theorem subOne_nm (p q pn pr n m v : Nat) (w : World) (hx : Nm w p n v) (hm : Md w q pn pr n m) (hpn : pn ≠ p) (h1 : v < m) :
    Calls Try.prog 68 #[.pointer (some ⟨p, 0, none⟩), .pointer (some ⟨q, 0, none⟩)] w (NmOut p n ((v + m - 1) % m) w) := by
  have h32 := hm.n32
  have hn1 := hm.2.1
  have hm1 := hm.1
  obtain ⟨ms, mr, mi, rv, h, a1, a2, a3, _⟩ := hm.modAt
  have hpm := hm.ltq.2.2
  obtain ⟨xs, rest, x1, x2, x3, x4, x5⟩ := hx.open_
  refine (subOne_any p (p - 1) q pn (pn - 1) xs rest ms mr _ mi rv w x1 h (by omega) (by omega) (by omega) (by omega) (by omega) (by omega)).mono ?_
  rintro e w' ⟨rfl, zs, z1, z2, z3, z4⟩
  exact ⟨rfl, ⟨zs, rest, z2, x2, by omega, by omega, by rw [z4, x5, a3]⟩, At2.one p z3⟩

/-- A multiplication of Montgomery's. -/
theorem mont_nm (p pa pb q pn pr nx vx n m va vb : Nat) (w : World) (hx : Nm w p nx vx) (ha : Nm w pa n va) (hb : Nm w pb n vb) (hm : Md w q pn pr n m) (ho : m % 2 = 1) (hpn : pn ≠ p) (h1 : va < m) :
    Calls Try.prog 65 #[.pointer (some ⟨p, 0, none⟩), .pointer (some ⟨pa, 0, none⟩), .pointer (some ⟨pb, 0, none⟩), .pointer (some ⟨q, 0, none⟩)] w fun e w' =>
      ∃ z, z < m ∧ 18446744073709551616 ^ n * z % m = va * vb % m ∧ NmOut p n z w e w' := by
  have h32 := hm.n32
  have hn1 := hm.2.1
  obtain ⟨ms, mr, mi, rv, h, a1, a2, a3, _, a4⟩ := hm.modAt
  have hpm := hm.ltq.2.2
  obtain ⟨xs, rest, x1, x2, x3, x4, x5⟩ := hx.open_
  obtain ⟨ys, rest', y1, y2, y3, y4, y5⟩ := ha.open_
  obtain ⟨zs, rest'', z1, z2, z3, z4, z5⟩ := hb.open_
  rw [ho, show (1 == 1) = true from rfl] at h
  refine (montMul_any p (p - 1) pa (pa - 1) pb (pb - 1) q pn (pn - 1) n xs rest ys rest' zs rest'' ms mr mi rv w x1 y1 z1 h a1 y3 z3 hn1 (by omega) (by omega) (by omega) hpn (by omega) (a4 ho).1 (by omega)).mono ?_
  rintro e w' ⟨rfl, b', us, rest3, u1, u2, u3, u4, u5, u6, u7⟩
  rcases u3 with ⟨rfl, u3⟩ | u3
  · rw [a3] at u6
    rw [y5, z5, a3] at u7
    exact ⟨val us, u6, u7, rfl, ⟨us, rest3, u2, x2, u1, by omega, rfl⟩, u5⟩
  · omega

theorem bytes_nm (p q pn pr n m v S : Nat) (w : World) (hx : Nm w p n v) (hm : Md w q pn pr n m) (hS : (bitLen m + 7) / 8 = S) (hv : v < Pb S) :
    Calls Try.prog 45 #[.pointer (some ⟨p, 0, none⟩), .pointer (some ⟨q, 0, none⟩)] w fun e w' =>
      e = .returned (.slice (some ⟨w.heap.size, 0, none⟩) S S) ∧ Blk w' w.heap.size 5 ((enc S v).map B).toArray ∧ Kept NoBlk w w' := by
  have h32 := hm.n32
  have hml := hm.mlt
  obtain ⟨ms, mr, mi, rv, h, a1, a2, a3, _⟩ := hm.modAt
  obtain ⟨xs, rest, x1, x2, x3, x4, x5⟩ := hx.open_
  have hS2 : S ≤ 8 * n := by
    have := bitLen_val_le ms h.2.2.2.1
    rw [a3, a1] at this
    omega
  rw [← x5]
  exact bytes_any p (p - 1) q pn (pn - 1) xs rest ms mr _ mi rv S w x1 h (by omega) (by omega) (by rw [a3]; exact hS) (by rw [x5]; exact hv) (by omega)

theorem size_md (q pn pr n m : Nat) (w : World) (hm : Md w q pn pr n m) :
    Calls Try.prog 57 #[.pointer (some ⟨q, 0, none⟩)] w fun e w' => e = .returned (.int .i64 (((bitLen m + 7) / 8 : Nat) : Int)) ∧ w = w' := by
  have h32 := hm.n32
  obtain ⟨ms, mr, mi, rv, h, a1, a2, a3, _⟩ := hm.modAt
  rw [← a3]
  exact modSize_any q pn (pn - 1) ms mr _ mi rv w h (by omega)
theorem bitLen_md (q pn pr n m : Nat) (w : World) (hm : Md w q pn pr n m) :
    Calls Try.prog 54 #[.pointer (some ⟨q, 0, none⟩)] w fun e w' => e = .returned (.int .i64 (bitLen m : Int)) ∧ w = w' := by
  have h32 := hm.n32
  obtain ⟨ms, mr, mi, rv, h, a1, a2, a3, _⟩ := hm.modAt
  rw [← a3]
  exact modBitLen_any q pn (pn - 1) ms mr _ mi rv w h (by omega)
theorem bitLenVar_nm (p n v : Nat) (w : World) (hx : Nm w p n v) :
    Calls Try.prog 67 #[.pointer (some ⟨p, 0, none⟩)] w fun e w' => e = .returned (.int .i64 (bitLen v : Int)) ∧ w = w' := by
  obtain ⟨xs, rest, x1, x2, x3, x4, x5⟩ := hx.open_
  rw [← x5]
  exact bitLenVar_any p (p - 1) xs rest w x1 (by omega)

theorem isZero_nm (p n v : Nat) (w : World) (hx : Nm w p n v) :
    Calls Try.prog 74 #[.pointer (some ⟨p, 0, none⟩)] w fun e w' => e = .returned (.int .u64 (bitN (decide (v = 0)) : Int)) ∧ w = w' := by
  obtain ⟨xs, rest, x1, x2, x3, x4, x5⟩ := hx.open_
  rw [← x5]
  exact isZero_any p (p - 1) xs rest w x1 (by omega)
theorem isOne_nm (p n v : Nat) (w : World) (hx : Nm w p n v) (hn : 1 ≤ n) :
    Calls Try.prog 75 #[.pointer (some ⟨p, 0, none⟩)] w fun e w' => e = .returned (.int .u64 (bitN (decide (v = 1)) : Int)) ∧ w = w' := by
  obtain ⟨xs, rest, x1, x2, x3, x4, x5⟩ := hx.open_
  cases xs with
  | nil => simp at x3; omega
  | cons x xs =>
    rw [← x5]
    exact isOne_any p (p - 1) x xs rest w x1 (by omega)
theorem isOdd_nm (p n v : Nat) (w : World) (hx : Nm w p n v) (hn : 1 ≤ n) :
    Calls Try.prog 53 #[.pointer (some ⟨p, 0, none⟩)] w fun e w' => e = .returned (.int .u64 ((v % 2 : Nat) : Int)) ∧ w = w' := by
  obtain ⟨xs, rest, x1, x2, x3, x4, x5⟩ := hx.open_
  cases xs with
  | nil => simp at x3; omega
  | cons x xs =>
    rw [← x5, val_odd]
    exact isOdd_any p (p - 1) x xs rest w x1 (by omega)
theorem equal_nm (p p' n v v' : Nat) (w : World) (hx : Nm w p n v) (hy : Nm w p' n v') :
    Calls Try.prog 95 #[.pointer (some ⟨p, 0, none⟩), .pointer (some ⟨p', 0, none⟩)] w fun e w' => e = .returned (.int .u64 (bitN (decide (v = v')) : Int)) ∧ Kept NoBlk w w' := by
  obtain ⟨xs, rest, x1, x2, x3, x4, x5⟩ := hx.open_
  obtain ⟨ys, rest', y1, y2, y3, y4, y5⟩ := hy.open_
  rw [← x5, ← y5]
  exact equal_any p (p - 1) p' (p' - 1) xs rest ys rest' w x1 y1 (by omega) (by omega)
theorem cmpGeq_nm (p p' n v v' : Nat) (w : World) (hx : Nm w p n v) (hy : Nm w p' n v') :
    Calls Try.prog 62 #[.pointer (some ⟨p, 0, none⟩), .pointer (some ⟨p', 0, none⟩)] w fun e w' => e = .returned (.int .u64 (bitN (decide (v' ≤ v)) : Int)) ∧ Kept NoBlk w w' := by
  obtain ⟨xs, rest, x1, x2, x3, x4, x5⟩ := hx.open_
  obtain ⟨ys, rest', y1, y2, y3, y4, y5⟩ := hy.open_
  rw [← x5, ← y5]
  exact cmpGeq_any p (p - 1) p' (p' - 1) xs rest ys rest' w x1 y1 (by omega) (by omega)
theorem assign_nm (p p' n v v' c : Nat) (w : World) (hc : c ≤ 1) (hx : Nm w p n v) (hy : Nm w p' n v') (hne : p ≠ p') :
    Calls Try.prog 90 #[.pointer (some ⟨p, 0, none⟩), .int .u64 c, .pointer (some ⟨p', 0, none⟩)] w (NmOut p n (if c = 1 then v' else v) w) := by
  obtain ⟨xs, rest, x1, x2, x3, x4, x5⟩ := hx.open_
  obtain ⟨ys, rest', y1, y2, y3, y4, y5⟩ := hy.open_
  refine (assign_any p (p - 1) p' (p' - 1) c xs rest ys rest' w hc x1 y1 (by omega) (.inl (by omega)) (by omega)).mono ?_
  rintro e w' ⟨rfl, z1, z2⟩
  refine ⟨rfl, ⟨sel c ys xs, rest, z1, x2, ?_, by omega, ?_⟩, At2.one p z2⟩
  · unfold sel; split <;> omega
  · unfold sel; split <;> assumption

/-- A new modulus of few words. -/
theorem newMod_md (A : Option Addr) (cap : Nat) (bs : List UInt8) (w : World) (hb : BytesAt w A bs) (hA : ∀ a, A = some a → bs ≠ [] → a.block < w.heap.size) (hc : bs.length ≤ cap) (hL : bs.length ≤ 256) (h1 : 1 < num bs) :
    Calls Try.prog 48 #[.slice A bs.length cap] w fun e w' =>
      ∃ q pn pr n, e = .returned (.tuple #[.pointer (some ⟨q, 0, none⟩), .nilIface]) ∧ w.heap.size ≤ q ∧ w.heap.size < pn ∧ w.heap.size < pr ∧ Md w' q pn pr n (num bs) ∧ Kept NoBlk w w' := by
  refine (newMod_any A cap bs w hb hA hc (by omega) h1).mono ?_
  rintro e w' ⟨q, pn, bn, ms, mr, rfl, a1, a2, a3, ⟨mi, rv, b1, b2, b3, b4, b5⟩, a5, a6, a7, a8, k⟩
  obtain ⟨rfl, a9⟩ := a8 hL
  have h0 : ms ≠ [] := by rintro rfl; simp [val] at b3
  have hl : 1 ≤ ms.length := by cases ms with
    | nil => exact absurd rfl h0
    | cons x xs => simp
  have hge := b2.ge h0
  rw [a5] at b1 b3 b5 hge
  have hnm : Nm w' (bn + 1) ms.length (num bs) := ⟨ms, mr, by simpa using b1.2, by omega, rfl, a9, a5⟩
  by_cases ho : num bs % 2 = 1
  · obtain ⟨c1, pr, br, rs, rt, rfl, c2, c3, c4, c5, c6, c7⟩ := b5 ho
    obtain ⟨rfl, c8⟩ := c7 (by omega)
    refine ⟨q, bn + 1, br + 1, ms.length, rfl, a1, by omega, by omega, ⟨b3, hl, hge, hnm, mi, _, b1.1, b4, fun _ => ⟨?_, rfl, rs, rt, by simpa using c4, by omega, c5, by omega, c6⟩⟩, k⟩
    cases ms with
    | nil => exact absurd rfl h0
    | cons x xs =>
      rw [← a5, val, Nat.add_mul, Nat.mul_assoc, Nat.add_mul_mod_self_left]
      exact c1
  · exact ⟨q, bn + 1, bn + 1, ms.length, rfl, a1, by omega, by omega, ⟨b3, hl, hge, hnm, mi, rv, b1.1, b4, fun h => absurd h ho⟩, k⟩

end Go.Proofs.Ytmheoenieaemmaa
