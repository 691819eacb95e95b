/-
  bigmod.Nat: montgomeryRepresentation, montgomeryReduction, Mul for odd moduli, ExpShortVarTime.
-/
import Derived.Test.YtmheoenieaemmaaMod
namespace Go.Proofs.Ytmheoenieaemmaa
open Go.RowKit

theorem Md.flag {w : World} {q pn pr n m : Nat} (h : Md w q pn pr n m) : w.cell? ⟨q, 1, none⟩ = some (.bool (m % 2 == 1)) ∧ w.cell? ⟨q, 0, none⟩ = some (.pointer (some ⟨pn, 0, none⟩)) ∧ (m % 2 = 1 → w.cell? ⟨q, 3, none⟩ = some (.pointer (some ⟨pr, 0, none⟩))) := by
  obtain ⟨_, _, _, _, mi, rv, e, _, g⟩ := h
  exact ⟨e.cellIs rfl, e.cellIs rfl, fun ho => by rw [e.cellIs (i := 3) rfl]; exact congrArg some (g ho).2.1⟩

/-- A form of a number, in place. -/
def FormOut (p n m x : Nat) (w : World) (e : Ending) (w' : World) : Prop := ∃ z, z < m ∧ MF n m z x ∧ NmOut p n z w e w'

theorem montRep_nm (p q pn pr n m v : Nat) (w : World) (hx : Nm w p n v) (hm : Md w q pn pr n m) (ho : m % 2 = 1) (hpn : pn ≠ p) (hv : v < m) :
    Calls Try.prog 63 #[.pointer (some ⟨p, 0, none⟩), .pointer (some ⟨q, 0, none⟩)] w (FormOut p n m v w) := by
  have c3 := hm.flag.2.2 ho
  have hrr : Nm w pr n (Pw n * Pw n % m) := by
    obtain ⟨_, _, _, _, mi, rv, e, _, g⟩ := hm
    exact (g ho).2.2
  have HMM := Lib.hid (mont_nm p p pr q pn pr n v n m v (Pw n * Pw n % m) w hx hx hrr hm ho hpn hv)
  have HO := Lib.hid ho
  clear hx hm hrr ho hv
  go_enter Try.func63, Try.ntmps63
  go_wp2_with fail
  refine HMM.out.mono ?_
  rintro e w1 ⟨z, hz, hR, rfl, hN, hK⟩
  have hfin : FormOut p n m v w (.returned (.pointer (some ⟨p, 0, none⟩))) w1 := ⟨z, hz, MF.make HO.out rfl hz hR, rfl, hN, hK⟩
  have FIN := Lib.hid hfin
  clear hz hR hN hK hfin HMM
  go_wp2_with fail
  go_ret
  exact FIN.out

theorem Nm.setOne {w w' : World} {p n : Nat} (h : Nm w p n 0) (hn : 1 ≤ n) (hw : w' = w.setCell ⟨p - 1, 0, none⟩ (.int .u64 1)) : Nm w' p n 1 := by
  subst hw
  obtain ⟨rest, a, b, c⟩ := h.nought
  exact ⟨_, rest, a.setLimb 0 1 (by rw [noughts_length]; omega) (by decide), b, by rw [List.length_set, noughts_length], c, val_one n hn⟩
theorem Nm.limb0 {w : World} {p n : Nat} (h : Nm w p n 0) (hn : 1 ≤ n) : ∃ cp, w.cell? ⟨p, 0, none⟩ = some (.slice (some ⟨p - 1, 0, none⟩) n cp) ∧ w.cell? ⟨p - 1, 0, none⟩ = some (.int .u64 0) ∧ w.frozen? ⟨p - 1, 0, none⟩ = false := by
  obtain ⟨rest, a, b, c⟩ := h.nought
  refine ⟨n + rest.length, ?_, ?_, a.2.1.frozen 0⟩
  · have := a.cell; rw [noughts_length] at this; exact this
  · have := a.limb 0 (by rw [noughts_length]; omega)
    rw [this]; simp [noughts]

theorem montRed_nm (p q pn pr n m v x : Nat) (w : World) (hx : Nm w p n v) (hm : Md w q pn pr n m) (ho : m % 2 = 1) (hpn : pn ≠ p) (hv : v < m) (hF : MF n m v x) :
    Calls Try.prog 66 #[.pointer (some ⟨p, 0, none⟩), .pointer (some ⟨q, 0, none⟩)] w (NmOut p n (x % m) w) := by
  have hn1 := hm.2.1
  have hpl := hx.lt
  have HX := Lib.hid hx
  have HM := Lib.hid hm
  have HO := Lib.hid ho
  have HF := Lib.hid hF
  have HV := Lib.hid hv
  clear hx hm ho hF hv
  go_enter Try.func66, Try.ntmps66
  go_wp2_with fail
  refine (newNat_nm w).mono ?_
  rintro e w1 ⟨rfl, h1, k1⟩
  have hs1 := k1.size
  have HE := Lib.hid (expandFor_nm (w.heap.size + 1) q pn pr 0 0 n m w1 h1 (HM.out.still k1) (Nat.zero_le _))
  have K1 := Lib.hid k1
  clear h1 k1
  go_wp2_with fail
  refine HE.out.mono ?_
  rintro e w2 ⟨rfl, h2, k2⟩
  have k02 : Kept NoBlk w w2 := At2.new K1.out k2 (Nat.lt_succ_self _)
  obtain ⟨cp, c1, c2, f2⟩ := h2.limb0 hn1
  have hpos : (0 : Int) < (n : Int) := by omega
  have hone := h2.setOne (w' := w2.setCell ⟨w.heap.size + 1 - 1, 0, none⟩ (.int .u64 1)) hn1 rfl
  have hk3 : Kept NoBlk w (w2.setCell ⟨w.heap.size + 1 - 1, 0, none⟩ (.int .u64 1)) := k02.setNew (by omega) _ _
  rw [Nat.add_sub_cancel] at c1 c2 f2 hone hk3
  have hmm := mont_nm p p (w.heap.size + 1) q pn pr n v n m v 1 _ (HX.out.still hk3) (HX.out.still hk3) hone (HM.out.still hk3) HO.out hpn HV.out
  have HMM := Lib.hid hmm
  have HK3 := Lib.hid hk3
  clear h2 k2 k02 hone hk3 hmm HE K1
  go_wp2_with fail
  refine HMM.out.mono ?_
  rintro e w4 ⟨z, hz, hR, rfl, hN, hK⟩
  have hzv : z = x % m := HF.out.back HO.out hz hR
  subst hzv
  have hfin : NmOut p n (x % m) w (.returned (.pointer (some ⟨p, 0, none⟩))) w4 := ⟨rfl, hN, (HK3.out.mono (fun _ _ e => e.elim)).trans hK⟩
  have FIN := Lib.hid hfin
  clear hz hR hN hK hfin HMM
  go_wp2_with fail
  go_ret
  exact FIN.out

set_option maxRecDepth 8000 in
theorem mulOdd_nm (p p' q pn pr n m v v' : Nat) (w : World) (hx : Nm w p n v) (hy : Nm w p' n v') (hm : Md w q pn pr n m) (ho : m % 2 = 1) (hpn : pn ≠ p) (hv : v < m) :
    Calls Try.prog 92 #[.pointer (some ⟨p, 0, none⟩), .pointer (some ⟨p', 0, none⟩), .pointer (some ⟨q, 0, none⟩)] w (NmOut p n (v * v' % m) w) := by
  have hpl := hx.lt
  have hpl' := hy.lt
  have hql := hm.ltq
  have c1 := hm.flag.1
  rw [ho, show (1 == 1) = true from rfl] at c1
  have HX := Lib.hid hx
  have HY := Lib.hid hy
  have HM := Lib.hid hm
  have HO := Lib.hid ho
  have HV := Lib.hid hv
  clear hx hy hm ho hv
  go_enter Try.func92, Try.ntmps92
  go_wp2_with fail
  refine (newNat_nm w).mono ?_
  rintro e w1 ⟨rfl, h1, k1⟩
  have hs1 := k1.size
  have HS := Lib.hid (set_nm (w.heap.size + 1) p 0 0 n v w1 h1 (HX.out.still k1) (by omega))
  have K1 := Lib.hid k1
  clear h1 k1
  go_wp2_with fail
  refine HS.out.mono ?_
  rintro e w2 ⟨rfl, h2, k2⟩
  have k02 : Kept NoBlk w w2 := At2.new K1.out k2 (Nat.lt_succ_self _)
  have HRP := Lib.hid (montRep_nm (w.heap.size + 1) q pn pr n m v w2 h2 (HM.out.still k02) HO.out (by omega) HV.out)
  have K2 := Lib.hid k02
  clear h2 k2 k02 HS K1
  go_wp2_with fail
  refine HRP.out.mono ?_
  rintro e w3 ⟨z, hz, hF, rfl, h3, k3⟩
  have k03 : Kept NoBlk w w3 := At2.new K2.out k3 (Nat.lt_succ_self _)
  have hmm := mont_nm p (w.heap.size + 1) p' q pn pr n v n m z v' w3 (HX.out.still k03) h3 (HY.out.still k03) (HM.out.still k03) HO.out hpn hz
  have HMM := Lib.hid hmm
  have HF := Lib.hid hF
  have K3 := Lib.hid k03
  clear hz hF h3 k3 k03 hmm HRP K2
  go_wp2_with fail
  refine HMM.out.mono ?_
  rintro e w4 ⟨u, hu, hR, rfl, hN, hK⟩
  have huv : u = v * v' % m := HF.out.half HO.out hu hR
  subst huv
  have hfin : NmOut p n (v * v' % m) w (.returned (.pointer (some ⟨p, 0, none⟩))) w4 := ⟨rfl, hN, (K3.out.mono (fun _ _ e => e.elim)).trans hK⟩
  have FIN := Lib.hid hfin
  clear hu hR hN hK hfin HMM
  go_wp2_with fail
  go_ret
  exact FIN.out

end Go.Proofs.Ytmheoenieaemmaa
