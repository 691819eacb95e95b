/-
  bigmod.Nat: Sub and SubOne where the number is not the smaller one.
-/
import Derived.Test.YtdmpiecdpdknaaaGreatDoorGf
namespace Go.Proofs.YtdmpiecdpdknaaaGreatDoor
open Go.RowKit

theorem modSub_ge (p b p' b' q pn bn : Nat) (xs rest ys rest' ms mr : List Nat) (od : Bool) (mi : Nat) (rv : Value) (w : World) (hx : NatAt w p b xs rest) (hy : NatAt w p' b' ys rest') (hm : ModAt w q pn bn ms mr od mi rv) (hb : b ≠ b' ∨ b = b' ∧ xs = ys) (hbn : bn ≠ b)
    (hl : xs.length = ms.length) (hl' : ys.length = ms.length) (hn : ms.length + mr.length ≤ 1000000) (hn' : ys.length + rest'.length ≤ 1000000) (hge : val ys ≤ val xs) :
    Calls Tryz.prog 65 #[.pointer (some ⟨p, 0, none⟩), .pointer (some ⟨p', 0, none⟩), .pointer (some ⟨q, 0, none⟩)] w fun e w' =>
      e = .returned (.pointer (some ⟨p, 0, none⟩)) ∧ ∃ zs : List Nat, zs.length = xs.length ∧ NatAt w' p b zs rest ∧ Kept (OneBlk b) w w' ∧ val zs = val xs - val ys := by
  have ha := nat_sub p b p' b' xs rest ys rest' w hx hy (hl.trans hl'.symm) hb hn'
  have hmv := val_lt ms hm.2.2.2.1
  have HA := Lib.hid ha
  have HM := Lib.hid hm
  have HX := Lib.hid hx
  have HL := Lib.hid hl
  have HMV := Lib.hid hmv
  have HGE := Lib.hid hge
  have hpl := hx.lt
  have hml := hm.2.lt
  clear ha hge hx hy hm hb hl hl' hmv
  go_enter Tryz.func65, Tryz.ntmps65
  go_wp2_with fail
  refine HA.out.mono ?_
  rintro e w1 ⟨zs, c, rfl, hc, hz, hv, h1, k1⟩
  have hm1 := HM.out.away1 HX.out hbn k1
  have H1 := Lib.hid h1
  have K1 := Lib.hid k1
  have HM1 := Lib.hid hm1
  have HV := Lib.hid hv
  have HZ := Lib.hid hz
  have hs1 := k1.size
  clear h1 k1 hm1 hv hz HA
  go_wp2_with fail
  refine (newNat_any w1).mono ?_
  rintro e w2 ⟨rfl, h2, k2⟩
  have hs2 := k2.size
  have hz := HZ.out
  have hll := HL.out
  have hst := set_any (w1.heap.size + 1) w1.heap.size p b [] (noughts 32) zs rest w2 h2 (H1.out.still k2) (by omega) (by omega) (by omega)
  have HST := Lib.hid hst
  have K2 := Lib.hid k2
  clear h2 k2 hst hz hll
  go_wp2_with fail
  refine HST.out.mono ?_
  rintro e w3 ⟨rfl, b3, rest3, h3, h4, h5, h6⟩
  have hk : Kept NoBlk w1 w3 := K2.out.step h6 (fun i hi e => by unfold Both at e; omega)
  have hb3 : w1.heap.size ≤ b3 := by omega
  have hm3 := HM1.out.still hk
  have hx3 := H1.out.still hk
  have hadd := nat_add (w1.heap.size + 1) b3 pn bn zs rest3 ms mr w3 h3 hm3.2 (HZ.out.trans HL.out) (.inl (by omega)) hn
  have hc3 := hm3.ptr
  have HADD := Lib.hid hadd
  have HK := Lib.hid hk
  have H3 := Lib.hid h3
  have HX3 := Lib.hid hx3
  have h5b : zs.length + rest3.length ≤ 1000000 := by have := HZ.out; have := HL.out; simp [noughts] at h5; omega
  clear h3 h4 h5 h6 hk hm3 hx3 hadd HST K2 hs2
  go_wp2_with fail
  refine HADD.out.mono ?_
  rintro e w4 ⟨us, d, rfl, hd1, hu, hv2, h4, k4⟩
  have hx4 := HX3.out.away1 H3.out (by omega) k4
  have has := assign_any p b (w1.heap.size + 1) b3 c zs rest us rest3 w4 hc hx4 h4 hu.symm (.inl (by omega)) (by omega)
  have hkk := HK.out.fresh k4 hb3
  have HAS := Lib.hid has
  have HKK := Lib.hid hkk
  have HV2 := Lib.hid hv2
  have HU := Lib.hid hu
  have HW := Lib.hid h4.2.2.1
  clear has hkk hv2 hu h4 hx4 k4 HADD HK H3 HX3
  go_wp2_with fail
  refine HAS.out.mono ?_
  rintro e w5 ⟨rfl, h5, k5⟩
  have hkept : Kept (OneBlk b) w w5 := K1.out.trans ((HKK.out.mono (S' := OneBlk b) (fun _ _ e => e.elim)).trans k5)
  have hfin : ∃ zs : List Nat, zs.length = xs.length ∧ NatAt w5 p b zs rest ∧ Kept (OneBlk b) w w5 ∧ val zs = val xs - val ys := by
    have hv := HV.out
    have hv2 := HV2.out
    have hmv := HMV.out
    have hz := HZ.out
    have hu := HU.out
    have hl := HL.out
    have hzl := val_lt zs H1.out.2.2.1
    have hul := val_lt us HW.out
    rw [hu, hz, hl] at hul
    rw [hz, hl] at hzl hv2
    rw [hl] at hv
    have hcc : c = 0 ∨ c = 1 := by omega
    have hdd : d = 0 ∨ d = 1 := by omega
    rcases hcc with rfl | rfl
    · rw [sel_zero] at h5
      refine ⟨zs, hz, h5, hkept, ?_⟩
      omega
    · exact absurd hzl (by have := HGE.out; omega)
  have FIN := Lib.hid hfin
  clear hfin h5 k5 hkept HAS
  go_wp2_with fail
  go_ret
  exact ⟨rfl, FIN.out⟩

theorem subOne_ge (p b q pn bn : Nat) (xs rest ms mr : List Nat) (od : Bool) (mi : Nat) (rv : Value) (w : World) (hx : NatAt w p b xs rest) (hm : ModAt w q pn bn ms mr od mi rv) (hbn : bn ≠ b)
    (hl : xs.length = ms.length) (hn : ms.length + mr.length ≤ 1000000) (hn1 : 1 ≤ ms.length) (hge : 1 ≤ val xs) :
    Calls Tryz.prog 58 #[.pointer (some ⟨p, 0, none⟩), .pointer (some ⟨q, 0, none⟩)] w fun e w' =>
      e = .returned (.pointer (some ⟨p, 0, none⟩)) ∧ ∃ zs : List Nat, zs.length = xs.length ∧ NatAt w' p b zs rest ∧ Kept (OneBlk b) w w' ∧ val zs = val xs - 1 := by
  have HM := Lib.hid hm
  have HX := Lib.hid hx
  have HL := Lib.hid hl
  have hpl := hx.lt
  have hml := hm.2.lt
  clear hx hm hl
  go_enter Tryz.func58, Tryz.ntmps58
  go_wp2_with fail
  refine (newNat_any w).mono ?_
  rintro e w1 ⟨rfl, h1, k1⟩
  have hs1 := k1.size
  have hexp := expandFor_any (w.heap.size + 1) w.heap.size q pn bn [] (noughts 32) ms mr od mi rv w1 h1 (HM.out.still k1) (by simp) (by omega)
  have HE := Lib.hid hexp
  have K1 := Lib.hid k1
  clear h1 k1 hexp
  go_wp2_with fail
  refine HE.out.mono ?_
  rintro e w2 ⟨rfl, b2, rest2, h2, h3, h4, h5⟩
  have hk : Kept NoBlk w w2 := K1.out.step h5 (fun i hi e => by unfold Both at e; omega)
  have hb2 : w.heap.size ≤ b2 := by omega
  simp only [List.nil_append, List.length_nil, Nat.sub_zero] at h2 h4
  have c1 := h2.cell
  have c2 := h2.limb 0 (by rw [noughts_length]; omega)
  have f2 := h2.2.1.frozen 0
  rw [noughts_length] at c1 h4
  have h6 := h2.setLimb 0 1 (by rw [noughts_length]; omega) (by decide)
  have hk6 : Kept NoBlk w (w2.setCell ⟨b2, 0, none⟩ (.int .u64 ((1 : Nat) : Int))) := hk.setNew hb2 _ _
  have hv := val_one ms.length hn1
  have hsub := modSub_ge p b (w.heap.size + 1) b2 q pn bn xs rest ((noughts ms.length).set 0 1) rest2 ms mr od mi rv _ (HX.out.still hk6) h6 (HM.out.still hk6) (.inl (by omega)) hbn HL.out (by rw [List.length_set, noughts_length]) hn
    (by rw [List.length_set, noughts_length]; simp [noughts] at h4; omega) (by rw [hv]; exact hge)
  rw [hv] at hsub
  have HSUB := Lib.hid hsub
  have HK6 := Lib.hid hk6
  have hpos : (0 : Int) < (ms.length : Int) := by omega
  clear h2 h3 h4 h5 hk h6 hk6 hv hsub HE K1
  go_wp2_with fail
  refine HSUB.out.mono ?_
  rintro e w3 ⟨rfl, zs, z1, z2, z3, z4⟩
  have hfin : ∃ zs : List Nat, zs.length = xs.length ∧ NatAt w3 p b zs rest ∧ Kept (OneBlk b) w w3 ∧ val zs = val xs - 1 := ⟨zs, z1, z2, (HK6.out.mono (S' := OneBlk b) (fun _ _ e => e.elim)).trans z3, z4⟩
  have FIN := Lib.hid hfin
  clear hfin z1 z2 z3 z4 HSUB
  go_wp2_with fail
  go_ret
  exact ⟨rfl, FIN.out⟩

/-- One less, of a number that is not nought (the modulus itself too). -/
theorem subOne_ge_nm (p q pn pr n m v : Nat) (w : World) (hx : Nm w p n v) (hm : Md w q pn pr n m) (hpn : pn ≠ p) (h1 : 1 ≤ v) :
    Calls Tryz.prog 58 #[.pointer (some ⟨p, 0, none⟩), .pointer (some ⟨q, 0, none⟩)] w (NmOut p n (v - 1) w) := by
  have h32 := hm.n32
  have hn1 := hm.2.1
  have hm1 := hm.1
  obtain ⟨ms, mr, mi, rv, h, a1, a2, a3, _⟩ := hm.modAt
  have hpm := hm.ltq.2.2
  obtain ⟨xs, rest, x1, x2, x3, x4, x5⟩ := hx.open_
  refine (subOne_ge p (p - 1) q pn (pn - 1) xs rest ms mr _ mi rv w x1 h (by omega) (by omega) (by omega) (by omega) (by omega)).mono ?_
  rintro e w' ⟨rfl, zs, z1, z2, z3, z4⟩
  exact ⟨rfl, ⟨zs, rest, z2, x2, by omega, by omega, by rw [z4, x5]⟩, At2.one p z3⟩

/-- A difference of numbers, the second one not the greater. -/
theorem sub_ge_nm (p p' q pn pr n m v v' : Nat) (w : World) (hx : Nm w p n v) (hy : Nm w p' n v') (hm : Md w q pn pr n m) (hpn : pn ≠ p) (hne : p ≠ p') (h1 : v' ≤ v) :
    Calls Tryz.prog 65 #[.pointer (some ⟨p, 0, none⟩), .pointer (some ⟨p', 0, none⟩), .pointer (some ⟨q, 0, none⟩)] w (NmOut p n (v - v') w) := by
  have h32 := hm.n32
  obtain ⟨ms, mr, mi, rv, h, a1, a2, a3, _⟩ := hm.modAt
  have hpm := hm.ltq.2.2
  obtain ⟨xs, rest, x1, x2, x3, x4, x5⟩ := hx.open_
  obtain ⟨ys, rest', y1, y2, y3, y4, y5⟩ := hy.open_
  refine (modSub_ge p (p - 1) p' (p' - 1) q pn (pn - 1) xs rest ys rest' ms mr _ mi rv w x1 y1 h (.inl (by omega)) (by omega) (by omega) (by omega) (by omega) (by omega) (by omega)).mono ?_
  rintro e w' ⟨rfl, zs, z1, z2, z3, z4⟩
  exact ⟨rfl, ⟨zs, rest, z2, x2, by omega, by omega, by rw [z4, x5, y5]⟩, At2.one p z3⟩

end Go.Proofs.YtdmpiecdpdknaaaGreatDoor
