/-
  impl.Precomputed (printed by gen_pre.py).
-/
import Derived.Test.YtdmpiecdpdknaaaDoorPreN
import Derived.Test.YtdmpiecdpdknaaaDoorDecW
import Derived.Test.YtdmpiecdpdknaaaDoorExported
namespace Go.Proofs.YtdmpiecdpdknaaaDoor
open Go.RowKit

theorem own_some {A : Option Addr} {N s : Nat} (h : ∃ g, A = some ⟨g, 0, none⟩ ∧ N ≤ g ∧ g < s) : ∃ g, A = some ⟨g, 0, none⟩ := by
  obtain ⟨g, h, _⟩ := h
  exact ⟨g, h⟩

set_option maxHeartbeats 4000000 in
set_option maxRecDepth 20000 in
theorem precomputed_nm (w : World) (m e d p q dp dq qi X : Nat) (bP bQ : List UInt8) (v : Value) (hv : KeyV w m e d bP bQ v) (aU aV aI A : Option Addr) (cU cV cI cap : Nat) (cb : List UInt8)
    (hU : BytesAt w aU (enc ((bitLen (p - 1) + 7) / 8) dp)) (hV : BytesAt w aV (enc ((bitLen (q - 1) + 7) / 8) dq)) (hI : BytesAt w aI (enc ((bitLen p + 7) / 8) qi)) (hA : BytesAt w A cb) (hcl : cb.length ≤ (bitLen m + 7) / 8)
    (vP : num bP = p) (vQ : num bQ = q) (lN : (encT m).length ≤ 256) (lD : (encT d).length ≤ 256) (lP : bP.length ≤ 256) (lQ : bQ.length ≤ 256) (K : KeyN m e d p q dp dq qi)
    (DC : ∀ (w : World) (pk : Nat), PrivAt w pk m e d p q dp dq qi → ∀ (A : Option Addr) (cap : Nat), BytesAt w A cb → cb.length ≤ cap → Calls Tryd.prog 43 #[.pointer (some ⟨pk, 0, none⟩), .slice A cb.length cap, .bool false] w (DecOut m X w)) :
    Calls Tryd.prog 14 #[v, .slice aU ((bitLen (p - 1) + 7) / 8) cU, .slice aV ((bitLen (q - 1) + 7) / 8) cV, .slice aI ((bitLen p + 7) / 8) cI, .slice A cb.length cap] w (DecB m X w) := by
  have mb := K.mb
  have s1 : 0 < ((bitLen (p - 1) + 7) / 8) := by
    have := bitLen_low (v := p - 1) (k := 0) (by have := K.p3; omega)
    omega
  have s2 : 0 < ((bitLen (q - 1) + 7) / 8) := by
    have := bitLen_low (v := q - 1) (k := 0) (by have := K.q3; omega)
    omega
  have b1 := bitLen_mono (Nat.sub_le p 1)
  have b2 := bitLen_mono (Nat.sub_le q 1)
  have z1 : ((bitLen (p - 1) + 7) / 8) ≤ 75 ∧ ((bitLen (q - 1) + 7) / 8) ≤ 75 ∧ ((bitLen p + 7) / 8) ≤ 75 := by
    have := K.pb
    have := K.qb
    omega
  have NP := Lib.hid (fun w aN aD aP aQ (aU aV aI : Option Addr) cN cD cP cQ cU cV cI (hN : BytesAt w aN (encT m)) (hD : BytesAt w aD (encT d)) (hP : BytesAt w aP bP) (hQ : BytesAt w aQ bQ) (hU : BytesAt w aU (enc ((bitLen (p - 1) + 7) / 8) dp)) (hV : BytesAt w aV (enc ((bitLen (q - 1) + 7) / 8) dq)) (hI : BytesAt w aI (enc ((bitLen p + 7) / 8) qi))
    (kN : (encT m).length ≤ cN) (kD : (encT d).length ≤ cD) (kP : bP.length ≤ cP) (kQ : bQ.length ≤ cQ) (kU : ((bitLen (p - 1) + 7) / 8) ≤ cU) (kV : ((bitLen (q - 1) + 7) / 8) ≤ cV) (kI : ((bitLen p + 7) / 8) ≤ cI) (zU : ∃ g, aU = some ⟨g, 0, none⟩) (zV : ∃ g, aV = some ⟨g, 0, none⟩) =>
      (show Calls Tryd.prog 29 #[.slice aN (encT m).length cN, .int .i64 (e : Int), .slice aD (encT d).length cD, .slice aP bP.length cP, .slice aQ bQ.length cQ, .slice aU ((bitLen (p - 1) + 7) / 8) cU, .slice aV ((bitLen (q - 1) + 7) / 8) cV, .slice aI ((bitLen p + 7) / 8) cI] w (PrivOut m e d p q dp dq qi w) by
        obtain ⟨gU, rfl⟩ := zU
        obtain ⟨gV, rfl⟩ := zV
        exact newPrivPre_any w aN aD aP aQ aI gU gV cN cD cP cQ cU cV cI (encT m) bP bQ m e d p q dp dq qi hN hD hP hQ hU hV hI lN lP lQ kN kD kP kQ kU kV kI (num_encT m) vP vQ lD K))
  obtain ⟨S1, hS1⟩ : ∃ S1, ((bitLen (p - 1) + 7) / 8) = S1 := ⟨_, rfl⟩
  obtain ⟨S2, hS2⟩ : ∃ S2, ((bitLen (q - 1) + 7) / 8) = S2 := ⟨_, rfl⟩
  obtain ⟨SP, hSP⟩ : ∃ SP, ((bitLen p + 7) / 8) = SP := ⟨_, rfl⟩
  simp only [hS1, hS2, hSP] at NP
  rw [hS1] at hU s1 z1 ⊢
  rw [hS2] at hV s2 z1 ⊢
  rw [hSP] at hI z1 ⊢
  have SZ : Hid (0 < S1 ∧ 0 < S2) := Lib.hid ⟨s1, s2⟩
  obtain ⟨aN, aD, aP, aQ, cN, cD, cP, cQ, rfl, hN, hD, hP, hQ, kN, kD, kP, kQ⟩ := hv
  obtain ⟨w0, hw0⟩ : ∃ w0, w.alloc (.cells #[.slice aN (encT m).length cN, .int .i64 (e : Int), .slice aD (encT d).length cD, .slice aP bP.length cP, .slice aQ bQ.length cQ] 25) = w0 := ⟨_, rfl⟩
  have hb := Blk.new w 25 #[.slice aN (encT m).length cN, .int .i64 (e : Int), .slice aD (encT d).length cD, .slice aP bP.length cP, .slice aQ bQ.length cQ]
  rw [hw0] at hb
  have k0 : Kept NoBlk w w0 := by rw [← hw0]; exact (Kept.refl _ w).alloc _
  have y0 : w0.cell? ⟨w.heap.size, 0, none⟩ = some (.slice aN (encT m).length cN) := hb.cellIs rfl
  have y1 : w0.cell? ⟨w.heap.size, 1, none⟩ = some (.int .i64 (e : Int)) := hb.cellIs rfl
  have y2 : w0.cell? ⟨w.heap.size, 2, none⟩ = some (.slice aD (encT d).length cD) := hb.cellIs rfl
  have y3 : w0.cell? ⟨w.heap.size, 3, none⟩ = some (.slice aP bP.length cP) := hb.cellIs rfl
  have y4 : w0.cell? ⟨w.heap.size, 4, none⟩ = some (.slice aQ bQ.length cQ) := hb.cellIs rfl
  have HB := Lib.hid hb
  have H1 : Hid (∀ w', Kept NoBlk w0 w' → _) := Lib.hid (fun w' k => copied_any w' aN cN (encT m) ((hN.still k0).still k) (by omega))
  have H2 : Hid (∀ w', Kept NoBlk w0 w' → _) := Lib.hid (fun w' k => copied_any w' aD cD (encT d) ((hD.still k0).still k) (by omega))
  have H3 : Hid (∀ w', Kept NoBlk w0 w' → _) := Lib.hid (fun w' k => copied_any w' aP cP (bP) ((hP.still k0).still k) (by omega))
  have H4 : Hid (∀ w', Kept NoBlk w0 w' → _) := Lib.hid (fun w' k => copied_any w' aQ cQ (bQ) ((hQ.still k0).still k) (by omega))
  have H5 : Hid (∀ w', Kept NoBlk w0 w' → Calls Tryd.prog 21 #[.slice aU S1 cU] w' (GivesBytes w'.heap.size (enc S1 dp) w')) := Lib.hid (fun w' k => by
    have h := copied_any w' aU cU (enc S1 dp) ((hU.still k0).still k) (by rw [enc_length]; omega)
    rw [enc_length] at h
    exact h)
  have H6 : Hid (∀ w', Kept NoBlk w0 w' → Calls Tryd.prog 21 #[.slice aV S2 cV] w' (GivesBytes w'.heap.size (enc S2 dq) w')) := Lib.hid (fun w' k => by
    have h := copied_any w' aV cV (enc S2 dq) ((hV.still k0).still k) (by rw [enc_length]; omega)
    rw [enc_length] at h
    exact h)
  have H7 : Hid (∀ w', Kept NoBlk w0 w' → Calls Tryd.prog 21 #[.slice aI SP cI] w' (GivesBytes w'.heap.size (enc SP qi) w')) := Lib.hid (fun w' k => by
    have h := copied_any w' aI cI (enc SP qi) ((hI.still k0).still k) (by rw [enc_length]; omega)
    rw [enc_length] at h
    exact h)
  have HA := Lib.hid (hA.still k0)
  have HCL : Hid (cb.length ≤ 256) := Lib.hid (by omega)
  have MB := Lib.hid mb
  have DEC := Lib.hid DC
  have K0 := Lib.hid k0
  clear hN hD hP hQ hb k0 hU hV hI hA hcl K vP vQ mb b1 b2 hS1 hS2 hSP s1 s2 z1 kN kD kP kQ lN lD lP lQ DC
  go_enter Tryd.func14, Tryd.ntmps14
  go_wp2_with fail
  go_region_held3 (fun w' => w'.cell? ⟨w.heap.size, 0, none⟩ = some (.slice aN (encT m).length cN) ∧ w'.cell? ⟨w.heap.size, 1, none⟩ = some (.int .i64 (e : Int)) ∧ w'.cell? ⟨w.heap.size, 2, none⟩ = some (.slice aD (encT d).length cD) ∧ w'.cell? ⟨w.heap.size, 3, none⟩ = some (.slice aP bP.length cP) ∧ w'.cell? ⟨w.heap.size, 4, none⟩ = some (.slice aQ bQ.length cQ)) (exact ⟨by assumption, by assumption, by assumption, by assumption, by assumption⟩) (first | (go_at_call 21; (with_reducible refine (H1.out w0.drew ((Kept.refl NoBlk w0).drew)).mono ?_); rintro x w1 ⟨v1, rfl, o1, k1'⟩; have k1 : Kept NoBlk w0 w1 := ((Kept.refl NoBlk w0).drew).trans k1'; obtain ⟨A1, d1, rfl, e1, _, t1, z1⟩ := own_form o1; have b1 := HB.out.kept k1 (fun e => e); have i1_0 : w1.cell? ⟨w.heap.size, 0, none⟩ = some (.slice aN (encT m).length cN) := b1.cellIs rfl; have i1_1 : w1.cell? ⟨w.heap.size, 1, none⟩ = some (.int .i64 (e : Int)) := b1.cellIs rfl; have i1_2 : w1.cell? ⟨w.heap.size, 2, none⟩ = some (.slice aD (encT d).length cD) := b1.cellIs rfl; have i1_3 : w1.cell? ⟨w.heap.size, 3, none⟩ = some (.slice aP bP.length cP) := b1.cellIs rfl; have i1_4 : w1.cell? ⟨w.heap.size, 4, none⟩ = some (.slice aQ bQ.length cQ) := b1.cellIs rfl) | (go_at_call 21; (with_reducible refine (H2.out w1 k1).mono ?_); rintro x w2 ⟨v2, rfl, o2, k2'⟩; have k2 : Kept NoBlk w0 w2 := k1.none k2'; obtain ⟨A2, d2, rfl, e2, _, t2, z2⟩ := own_form o2; have b2 := HB.out.kept k2 (fun e => e); have i2_0 : w2.cell? ⟨w.heap.size, 0, none⟩ = some (.slice aN (encT m).length cN) := b2.cellIs rfl; have i2_1 : w2.cell? ⟨w.heap.size, 1, none⟩ = some (.int .i64 (e : Int)) := b2.cellIs rfl; have i2_2 : w2.cell? ⟨w.heap.size, 2, none⟩ = some (.slice aD (encT d).length cD) := b2.cellIs rfl; have i2_3 : w2.cell? ⟨w.heap.size, 3, none⟩ = some (.slice aP bP.length cP) := b2.cellIs rfl; have i2_4 : w2.cell? ⟨w.heap.size, 4, none⟩ = some (.slice aQ bQ.length cQ) := b2.cellIs rfl) | (go_at_call 21; (with_reducible refine (H3.out w2 k2).mono ?_); rintro x w3 ⟨v3, rfl, o3, k3'⟩; have k3 : Kept NoBlk w0 w3 := k2.none k3'; obtain ⟨A3, d3, rfl, e3, _, t3, z3⟩ := own_form o3; have b3 := HB.out.kept k3 (fun e => e); have i3_0 : w3.cell? ⟨w.heap.size, 0, none⟩ = some (.slice aN (encT m).length cN) := b3.cellIs rfl; have i3_1 : w3.cell? ⟨w.heap.size, 1, none⟩ = some (.int .i64 (e : Int)) := b3.cellIs rfl; have i3_2 : w3.cell? ⟨w.heap.size, 2, none⟩ = some (.slice aD (encT d).length cD) := b3.cellIs rfl; have i3_3 : w3.cell? ⟨w.heap.size, 3, none⟩ = some (.slice aP bP.length cP) := b3.cellIs rfl; have i3_4 : w3.cell? ⟨w.heap.size, 4, none⟩ = some (.slice aQ bQ.length cQ) := b3.cellIs rfl) | (go_at_call 21; (with_reducible refine (H4.out w3 k3).mono ?_); rintro x w4 ⟨v4, rfl, o4, k4'⟩; have k4 : Kept NoBlk w0 w4 := k3.none k4'; obtain ⟨A4, d4, rfl, e4, _, t4, z4⟩ := own_form o4; have b4 := HB.out.kept k4 (fun e => e); have i4_0 : w4.cell? ⟨w.heap.size, 0, none⟩ = some (.slice aN (encT m).length cN) := b4.cellIs rfl; have i4_1 : w4.cell? ⟨w.heap.size, 1, none⟩ = some (.int .i64 (e : Int)) := b4.cellIs rfl; have i4_2 : w4.cell? ⟨w.heap.size, 2, none⟩ = some (.slice aD (encT d).length cD) := b4.cellIs rfl; have i4_3 : w4.cell? ⟨w.heap.size, 3, none⟩ = some (.slice aP bP.length cP) := b4.cellIs rfl; have i4_4 : w4.cell? ⟨w.heap.size, 4, none⟩ = some (.slice aQ bQ.length cQ) := b4.cellIs rfl) | (go_at_call 21; (with_reducible refine (H5.out w4 k4).mono ?_); rintro x w5 ⟨v5, rfl, o5, k5'⟩; have k5 : Kept NoBlk w0 w5 := k4.none k5'; rw [enc_length] at o5; obtain ⟨A5, d5, rfl, e5, _, t5, z5⟩ := own_form o5; have b5 := HB.out.kept k5 (fun e => e); have i5_0 : w5.cell? ⟨w.heap.size, 0, none⟩ = some (.slice aN (encT m).length cN) := b5.cellIs rfl; have i5_1 : w5.cell? ⟨w.heap.size, 1, none⟩ = some (.int .i64 (e : Int)) := b5.cellIs rfl; have i5_2 : w5.cell? ⟨w.heap.size, 2, none⟩ = some (.slice aD (encT d).length cD) := b5.cellIs rfl; have i5_3 : w5.cell? ⟨w.heap.size, 3, none⟩ = some (.slice aP bP.length cP) := b5.cellIs rfl; have i5_4 : w5.cell? ⟨w.heap.size, 4, none⟩ = some (.slice aQ bQ.length cQ) := b5.cellIs rfl) | (go_at_call 21; (with_reducible refine (H6.out w5 k5).mono ?_); rintro x w6 ⟨v6, rfl, o6, k6'⟩; have k6 : Kept NoBlk w0 w6 := k5.none k6'; rw [enc_length] at o6; obtain ⟨A6, d6, rfl, e6, _, t6, z6⟩ := own_form o6; have b6 := HB.out.kept k6 (fun e => e); have i6_0 : w6.cell? ⟨w.heap.size, 0, none⟩ = some (.slice aN (encT m).length cN) := b6.cellIs rfl; have i6_1 : w6.cell? ⟨w.heap.size, 1, none⟩ = some (.int .i64 (e : Int)) := b6.cellIs rfl; have i6_2 : w6.cell? ⟨w.heap.size, 2, none⟩ = some (.slice aD (encT d).length cD) := b6.cellIs rfl; have i6_3 : w6.cell? ⟨w.heap.size, 3, none⟩ = some (.slice aP bP.length cP) := b6.cellIs rfl; have i6_4 : w6.cell? ⟨w.heap.size, 4, none⟩ = some (.slice aQ bQ.length cQ) := b6.cellIs rfl) | (go_at_call 21; (with_reducible refine (H7.out w6 k6).mono ?_); rintro x w7 ⟨v7, rfl, o7, k7'⟩; have k7 : Kept NoBlk w0 w7 := k6.none k7'; rw [enc_length] at o7; obtain ⟨A7, d7, rfl, e7, _, t7, z7⟩ := own_form o7; have b7 := HB.out.kept k7 (fun e => e); have i7_0 : w7.cell? ⟨w.heap.size, 0, none⟩ = some (.slice aN (encT m).length cN) := b7.cellIs rfl; have i7_1 : w7.cell? ⟨w.heap.size, 1, none⟩ = some (.int .i64 (e : Int)) := b7.cellIs rfl; have i7_2 : w7.cell? ⟨w.heap.size, 2, none⟩ = some (.slice aD (encT d).length cD) := b7.cellIs rfl; have i7_3 : w7.cell? ⟨w.heap.size, 3, none⟩ = some (.slice aP bP.length cP) := b7.cellIs rfl; have i7_4 : w7.cell? ⟨w.heap.size, 4, none⟩ = some (.slice aQ bQ.length cQ) := b7.cellIs rfl) | (go_at_call 29; have hmk := NP.out w7 A1 A2 A3 A4 A5 A6 A7 d1 d2 d3 d4 d5 d6 d7 (BytesAt.still (BytesAt.still (BytesAt.still (BytesAt.still (BytesAt.still (BytesAt.still t1 k2') k3') k4') k5') k6') k7') (BytesAt.still (BytesAt.still (BytesAt.still (BytesAt.still (BytesAt.still t2 k3') k4') k5') k6') k7') (BytesAt.still (BytesAt.still (BytesAt.still (BytesAt.still t3 k4') k5') k6') k7') (BytesAt.still (BytesAt.still (BytesAt.still t4 k5') k6') k7') (BytesAt.still (BytesAt.still t5 k6') k7') (BytesAt.still t6 k7') t7 e1 e2 e3 e4 e5 e6 e7 (own_some (z5 SZ.out.1)) (own_some (z6 SZ.out.2)); refine hmk.mono ?_; rintro x w8 ⟨pk, rfl, hpk, k8'⟩; have k8 : Kept NoBlk w0 w8 := k7.none k8'; have b8 := HB.out.kept k8 (fun e => e); have i8_0 : w8.cell? ⟨w.heap.size, 0, none⟩ = some (.slice aN (encT m).length cN) := b8.cellIs rfl; have i8_1 : w8.cell? ⟨w.heap.size, 1, none⟩ = some (.int .i64 (e : Int)) := b8.cellIs rfl; have i8_2 : w8.cell? ⟨w.heap.size, 2, none⟩ = some (.slice aD (encT d).length cD) := b8.cellIs rfl; have i8_3 : w8.cell? ⟨w.heap.size, 3, none⟩ = some (.slice aP bP.length cP) := b8.cellIs rfl; have i8_4 : w8.cell? ⟨w.heap.size, 4, none⟩ = some (.slice aQ bQ.length cQ) := b8.cellIs rfl))
  all_goals
    have HPK := Lib.hid hpk
    have KW := Lib.hid k8
    have C4 := Lib.hid (copied_any w8 A cap cb (HA.out.still KW.out) (by have := HCL.out; omega))
    clear hpk k8 k7 k6 k5 k4 k3 k2 k1 H1 H2 H3 H4 H5 H6 H7 NP HB
    go_wp2_with fail
    refine C4.out.mono ?_
    rintro x w9 ⟨v9, rfl, o9, k9⟩
    obtain ⟨A9, d9, rfl, e9, _, t9, _⟩ := own_form o9
    have C5 := Lib.hid (dec_without w9 _ _ _ _ (DEC.out w9 pk (HPK.out.still k9) A9 d9 t9 e9))
    have K5 := Lib.hid (KW.out.none k9)
    clear o9 k9 t9 C4 HPK KW
    go_wp2_with fail
    refine C5.out.mono ?_
    rintro x w10 ⟨g10, rfl, hg10, hb10, k10⟩
    have C6 := Lib.hid (DecOut.either hb10 MB.out)
    have K6 := Lib.hid (K0.out.none (K5.out.none k10))
    clear hb10 k10 hg10 C5 K5
    go_wp2_with fail
    refine C6.out.mono ?_
    intro x w11 h
    have h' := h.back K6.out
    clear h
    obtain ⟨A11, c11, g11, rfl, hg11, ho11, k11⟩ := h'
    have FIN : Hid (DecB m X w (.returned (.tuple #[.slice A11 ((bitLen m + 7) / 8) c11, .bool true])) w11) := Lib.hid ⟨A11, c11, g11, rfl, hg11, ho11, k11⟩
    clear hg11 ho11 k11 C6
    go_wp2_with fail
    go_ret2
    exact FIN.out

end Go.Proofs.YtdmpiecdpdknaaaDoor
