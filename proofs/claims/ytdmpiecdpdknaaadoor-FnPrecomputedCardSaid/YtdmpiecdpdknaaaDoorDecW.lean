/-
  impl.Decrypt: the walk.
-/
import Derived.Test.YtdmpiecdpdknaaaDoorDecI
namespace Go.Proofs.YtdmpiecdpdknaaaDoor
open Go.RowKit

/-- From the private operation on: the row that either hands back. -/
theorem DecOut.either {m X : Nat} {w1 : World} {g : Nat} (hb : Blk w1 g 5 ((enc ((bitLen m + 7) / 8) X).map B).toArray) (hm : bitLen m < 2048) :
    Calls Tryd.prog 23 #[.slice (some ⟨g, 0, none⟩) ((bitLen m + 7) / 8) ((bitLen m + 7) / 8), .nilIface] w1 (DecB m X w1) := by
  have h := either_ok (some ⟨g, 0, none⟩) ((bitLen m + 7) / 8) (enc ((bitLen m + 7) / 8) X) w1 hb.bytes (by rw [enc_length]; omega)
  rw [enc_length] at h
  refine h.mono ?_
  rintro x w2 ⟨v, rfl, hown, k⟩
  obtain ⟨A, c, rfl, _⟩ := own_form hown
  exact ⟨A, c, w1.heap.size, rfl, Nat.le_refl _, hown, k⟩
theorem DecB.back {m X : Nat} {w w1 w2 : World} {x : Ending} (h : DecB m X w1 x w2) (k : Kept NoBlk w w1) : DecB m X w x w2 := by
  obtain ⟨A, c, g, rfl, hg, ho, k2⟩ := h
  exact ⟨A, c, g, rfl, Nat.le_trans k.size hg, ho, k.none k2⟩

theorem PrivNo.still {w w' : World} {pk m e d : Nat} (h : PrivNo w pk m e d) (k : Kept NoBlk w w') : PrivNo w' pk m e d := by
  obtain ⟨qN, pN, rN, nN, bd, h1, h2, h3⟩ := h
  exact ⟨qN, pN, rN, nN, bd, h1.kept k (fun e => e), h2.still k, h3.still k⟩
theorem PrivAt.still {w w' : World} {pk m e d p q dp dq qi : Nat} (h : PrivAt w pk m e d p q dp dq qi) (k : Kept NoBlk w w') : PrivAt w' pk m e d p q dp dq qi := by
  obtain ⟨qN, pN, rN, nN, qP, pP, rP, nP, qQ, pQ, rQ, nQ, bd, bi, gP, gQ, kP, kQ, h1, h2, h3, h4, h5, h6, h7, h8⟩ := h
  exact ⟨qN, pN, rN, nN, qP, pP, rP, nP, qQ, pQ, rQ, nQ, bd, bi, gP, gQ, kP, kQ, h1.kept k (fun e => e), h2.still k, h3.still k, h4.still k, h5.still k, h6.still k, h7.still k, h8.still k⟩

set_option maxHeartbeats 4000000 in
set_option maxRecDepth 20000 in
theorem implDecrypt_any (a b : Nat) (hd : Duo a b) (w : World) (v : Value) (hv : KeyAt a b w v) (chi chk : Bool) (A : Option Addr) (cap : Nat) (cb : List UInt8) (hA : BytesAt w A cb) (hcl : cb.length ≤ (bitLen (Mp a * Mp b) + 7) / 8) (hcm : num cb < Mp a * Mp b) :
    Calls Tryd.prog 10 #[v, .bool chi, .bool chk, .slice A cb.length cap] w (DecB (Mp a * Mp b) (num cb ^ secOf a b % (Mp a * Mp b)) w) := by
  have HV := Lib.hid hv
  obtain ⟨aN, aD, aP, aQ, cN, cD, cP, cQ, rfl, hN, hD, hP, hQ, kN, kD, kP, kQ⟩ := hv
  have K := hd.keyN
  have DC : Hid (∀ (w : World) (pk : Nat) (hpk : _) (A : Option Addr) (cap : Nat) (cb : List UInt8) (chk : Bool) (hA : BytesAt w A cb) (hc : cb.length ≤ cap) (hcl : _) (hcm : _), _) := Lib.hid (hd.decC 65537 rfl)
  have DN : Hid (∀ (w : World) (pk : Nat) (hpk : _) (A : Option Addr) (cap : Nat) (cb : List UInt8) (chk : Bool) (hA : BytesAt w A cb) (hc : cb.length ≤ cap) (hcl : _) (hcm : _), _) := Lib.hid (hd.decN 65537 rfl)
  have mb := K.mb
  have lN : (encT (Mp a * Mp b)).length ≤ 256 := by rw [encT_length_bits]; omega
  have lD : (encT (secOf a b)).length ≤ 256 := by
    rw [encT_length_bits]
    have := bitLen_mono (Nat.le_of_lt K.dm)
    omega
  have lP : (mers a).length ≤ 256 := by have := hd.la; have := hd.sum; omega
  have lQ : (mers b).length ≤ 256 := by have := hd.lb; have := hd.sum; omega
  have hm1 : 1 < Mp a * Mp b := by have := K.p3; have := K.pm; omega
  have NP : Hid (∀ (w : World) (aN aD : Option Addr) (cN cD : Nat), BytesAt w aN (encT (Mp a * Mp b)) → BytesAt w aD (encT (secOf a b)) → (encT (Mp a * Mp b)).length ≤ cN → (encT (secOf a b)).length ≤ cD →
      Calls Tryd.prog 20 #[.slice aN (encT (Mp a * Mp b)).length cN, .int .i64 65537, .slice aD (encT (secOf a b)).length cD] w (PrivNoOut (Mp a * Mp b) 65537 (secOf a b) w)) := Lib.hid (fun w aN aD cN cD hN hD kN kD => newPrivNo_any w aN aD cN cD (encT (Mp a * Mp b)) (Mp a * Mp b) 65537 (secOf a b) hN hD lN kN kD (num_encT _) lD hm1 K.dm K.mo (by decide) (by decide) (by decide) mb)
  have PR : Hid (∀ (w : World) (v : Value) (hv : _), _) := Lib.hid (fun w v (hv : KeyAt a b w v) => private_any w (Mp a * Mp b) 65537 (secOf a b) (Mp a) (Mp b) (secOf a b % (Mp a - 1)) (secOf a b % (Mp b - 1)) (mers a) (mers b) v hv hd.na hd.nb lN lD lP lQ K)
  obtain ⟨w0, hw0⟩ : ∃ w0, w.alloc (.cells #[.slice aN (encT (Mp a * Mp b)).length cN, .int .i64 65537, .slice aD (encT (secOf a b)).length cD, .slice aP (mers a).length cP, .slice aQ (mers b).length cQ] 25) = w0 := ⟨_, rfl⟩
  have hb := Blk.new w 25 #[.slice aN (encT (Mp a * Mp b)).length cN, .int .i64 65537, .slice aD (encT (secOf a b)).length cD, .slice aP (mers a).length cP, .slice aQ (mers b).length cQ]
  rw [hw0] at hb
  have k0 : Kept NoBlk w w0 := by rw [← hw0]; exact (Kept.refl _ w).alloc _
  have hg := hb.lt
  have c0 : w0.cell? ⟨w.heap.size, 0, none⟩ = some (.slice aN (encT (Mp a * Mp b)).length cN) := hb.cellIs rfl
  have c1 : w0.cell? ⟨w.heap.size, 1, none⟩ = some (.int .i64 65537) := hb.cellIs rfl
  have c2 : w0.cell? ⟨w.heap.size, 2, none⟩ = some (.slice aD (encT (secOf a b)).length cD) := hb.cellIs rfl
  have HB := Lib.hid hb
  have H1 : Hid (∀ w', Kept NoBlk w0 w' → _) := Lib.hid (fun w' k => copied_any w' aN cN (encT (Mp a * Mp b)) ((hN.still k0).still k) (by omega))
  have H2 : Hid (∀ w', Kept NoBlk w0 w' → _) := Lib.hid (fun w' k => copied_any w' aD cD (encT (secOf a b)) ((hD.still k0).still k) (by omega))
  have HA := Lib.hid (hA.still k0)
  have HCL := Lib.hid hcl
  have HCM := Lib.hid hcm
  have K0 := Lib.hid k0
  have MB := Lib.hid mb
  have HV0 : Hid (KeyAt a b w0 (.agg #[.slice aN (encT (Mp a * Mp b)).length cN, .int .i64 65537, .slice aD (encT (secOf a b)).length cD, .slice aP (mers a).length cP, .slice aQ (mers b).length cQ])) := Lib.hid (HV.out.still k0)
  clear hN hD hP hQ hb k0 hA hcl hcm mb lN lD lP lQ hm1 K HV
  go_enter Tryd.func10, Tryd.ntmps10
  go_wp2_with fail
  go_region_held3 (fun w' => w'.cell? ⟨w.heap.size, 0, none⟩ = some (.slice aN (encT (Mp a * Mp b)).length cN) ∧ w'.cell? ⟨w.heap.size, 1, none⟩ = some (.int .i64 65537) ∧ w'.cell? ⟨w.heap.size, 2, none⟩ = some (.slice aD (encT (secOf a b)).length cD)) (exact ⟨by assumption, by assumption, by assumption⟩) (first
    | (go_at_call 21; (with_reducible refine (H1.out w0.drew ((Kept.refl NoBlk w0).drew)).mono ?_); rintro x w1 ⟨v1, rfl, o1, k1'⟩; have k1 : Kept NoBlk w0 w1 := ((Kept.refl NoBlk w0).drew).trans k1'; obtain ⟨A1, d1, rfl, e1, _, t1, _⟩ := own_form o1; have b1 := HB.out.kept k1 (fun e => e); have i0 : w1.cell? ⟨w.heap.size, 0, none⟩ = some (.slice aN (encT (Mp a * Mp b)).length cN) := b1.cellIs rfl; have i1 : w1.cell? ⟨w.heap.size, 1, none⟩ = some (.int .i64 65537) := b1.cellIs rfl; have i2 : w1.cell? ⟨w.heap.size, 2, none⟩ = some (.slice aD (encT (secOf a b)).length cD) := b1.cellIs rfl)
    | (go_at_call 21; (with_reducible refine (H2.out w1 k1).mono ?_); rintro x w2 ⟨v2, rfl, o2, k2'⟩; have k2 : Kept NoBlk w0 w2 := k1.none k2'; obtain ⟨A2, d2, rfl, e2, _, t2, _⟩ := own_form o2; have b2 := HB.out.kept k2 (fun e => e); have j0 : w2.cell? ⟨w.heap.size, 0, none⟩ = some (.slice aN (encT (Mp a * Mp b)).length cN) := b2.cellIs rfl; have j1 : w2.cell? ⟨w.heap.size, 1, none⟩ = some (.int .i64 65537) := b2.cellIs rfl; have j2 : w2.cell? ⟨w.heap.size, 2, none⟩ = some (.slice aD (encT (secOf a b)).length cD) := b2.cellIs rfl)
    | (go_at_call 20; refine (NP.out w2 A1 A2 d1 d2 (BytesAt.still t1 k2') t2 e1 e2).mono ?_; rintro x w3 ⟨pk, rfl, hpk, k3'⟩; have k3 : Kept NoBlk w0 w3 := k2.none k3'; have b3 := HB.out.kept k3 (fun e => e); have r0 : w3.cell? ⟨w.heap.size, 0, none⟩ = some (.slice aN (encT (Mp a * Mp b)).length cN) := b3.cellIs rfl; have r1 : w3.cell? ⟨w.heap.size, 1, none⟩ = some (.int .i64 65537) := b3.cellIs rfl; have r2 : w3.cell? ⟨w.heap.size, 2, none⟩ = some (.slice aD (encT (secOf a b)).length cD) := b3.cellIs rfl))
  all_goals
    clear k1' k1 o1 t1 b1 i0 i1 i2 k2' k2 o2 t2 b2 j0 j1 j2 k3' H1 H2 NP
    cases chi
    · skip
      cases chk
      · skip
        have HPK := Lib.hid hpk
        have KW := Lib.hid (k3)
        have C4 := Lib.hid (copied_any w3 A cap cb (HA.out.still KW.out) (by have := HCL.out; have := MB.out; omega))
        clear hpk k3 b3 r0 r1 r2 c0 c1 c2
        go_wp2_with fail
        refine C4.out.mono ?_
        rintro x w5 ⟨v5, rfl, o5, k5⟩
        obtain ⟨A5, d5, rfl, e5, _, t5, _⟩ := own_form o5
        have C5 := Lib.hid (dec_without w5 _ _ _ _ (DN.out w5 pk (HPK.out.still k5) A5 d5 cb false t5 e5 HCL.out HCM.out))
        have K5 := Lib.hid (KW.out.none k5)
        clear o5 k5 t5 C4 HPK KW
        go_wp2_with fail
        refine C5.out.mono ?_
        rintro x w6 ⟨g6, rfl, hg6, hb6, k6⟩
        have C6 := Lib.hid (DecOut.either hb6 MB.out)
        have K6 := Lib.hid (K0.out.none (K5.out.none k6))
        clear hb6 k6 hg6 C5 K5
        go_wp2_with fail
        refine C6.out.mono ?_
        intro x w7 h
        have h' := h.back K6.out
        clear h
        obtain ⟨A7, c7, g7, rfl, hg7, ho7, k7⟩ := h'
        have FIN : Hid (DecB (Mp a * Mp b) (num cb ^ secOf a b % (Mp a * Mp b)) w (.returned (.tuple #[.slice A7 ((bitLen (Mp a * Mp b) + 7) / 8) c7, .bool true])) w7) := Lib.hid ⟨A7, c7, g7, rfl, hg7, ho7, k7⟩
        clear hg7 ho7 k7 C6
        go_wp2_with fail
        go_ret2
        exact FIN.out
      · skip
        have HPK := Lib.hid hpk
        have KW := Lib.hid (k3)
        have C4 := Lib.hid (copied_any w3 A cap cb (HA.out.still KW.out) (by have := HCL.out; have := MB.out; omega))
        clear hpk k3 b3 r0 r1 r2 c0 c1 c2
        go_wp2_with fail
        refine C4.out.mono ?_
        rintro x w5 ⟨v5, rfl, o5, k5⟩
        obtain ⟨A5, d5, rfl, e5, _, t5, _⟩ := own_form o5
        have C5 := Lib.hid (dec_with w5 _ _ _ _ (DN.out w5 pk (HPK.out.still k5) A5 d5 cb true t5 e5 HCL.out HCM.out))
        have K5 := Lib.hid (KW.out.none k5)
        clear o5 k5 t5 C4 HPK KW
        go_wp2_with fail
        refine C5.out.mono ?_
        rintro x w6 ⟨g6, rfl, hg6, hb6, k6⟩
        have C6 := Lib.hid (DecOut.either hb6 MB.out)
        have K6 := Lib.hid (K0.out.none (K5.out.none k6))
        clear hb6 k6 hg6 C5 K5
        go_wp2_with fail
        refine C6.out.mono ?_
        intro x w7 h
        have h' := h.back K6.out
        clear h
        obtain ⟨A7, c7, g7, rfl, hg7, ho7, k7⟩ := h'
        have FIN : Hid (DecB (Mp a * Mp b) (num cb ^ secOf a b % (Mp a * Mp b)) w (.returned (.tuple #[.slice A7 ((bitLen (Mp a * Mp b) + 7) / 8) c7, .bool true])) w7) := Lib.hid ⟨A7, c7, g7, rfl, hg7, ho7, k7⟩
        clear hg7 ho7 k7 C6
        go_wp2_with fail
        go_ret2
        exact FIN.out
    · skip
      have r3 : w3.cell? ⟨w.heap.size, 3, none⟩ = some (.slice aP (mers a).length cP) := b3.cellIs rfl
      have r4 : w3.cell? ⟨w.heap.size, 4, none⟩ = some (.slice aQ (mers b).length cQ) := b3.cellIs rfl
      have CP := Lib.hid (PR.out w3 _ (HV0.out.still k3))
      clear hpk
      go_wp2_with fail
      refine CP.out.mono ?_
      rintro x w4 ⟨pk2, rfl, hpk2, k4'⟩
      have k4 : Kept NoBlk w0 w4 := k3.none k4'
      have b4 := HB.out.kept k4 (fun e => e)
      have q0 := b4.cell 0
      have q1 := b4.cell 1
      have q2 := b4.cell 2
      have q3 := b4.cell 3
      have q4 := b4.cell 4
      clear k4' r3 r4 CP
      cases chk
      · skip
        have HPK := Lib.hid hpk2
        have KW := Lib.hid (k4)
        have C4 := Lib.hid (copied_any w4 A cap cb (HA.out.still KW.out) (by have := HCL.out; have := MB.out; omega))
        clear hpk2 k3 b3 r0 r1 r2 c0 c1 c2 k4 b4 q0 q1 q2 q3 q4
        go_wp2_with fail
        refine C4.out.mono ?_
        rintro x w5 ⟨v5, rfl, o5, k5⟩
        obtain ⟨A5, d5, rfl, e5, _, t5, _⟩ := own_form o5
        have C5 := Lib.hid (dec_without w5 _ _ _ _ (DC.out w5 pk2 (HPK.out.still k5) A5 d5 cb false t5 e5 HCL.out HCM.out))
        have K5 := Lib.hid (KW.out.none k5)
        clear o5 k5 t5 C4 HPK KW
        go_wp2_with fail
        refine C5.out.mono ?_
        rintro x w6 ⟨g6, rfl, hg6, hb6, k6⟩
        have C6 := Lib.hid (DecOut.either hb6 MB.out)
        have K6 := Lib.hid (K0.out.none (K5.out.none k6))
        clear hb6 k6 hg6 C5 K5
        go_wp2_with fail
        refine C6.out.mono ?_
        intro x w7 h
        have h' := h.back K6.out
        clear h
        obtain ⟨A7, c7, g7, rfl, hg7, ho7, k7⟩ := h'
        have FIN : Hid (DecB (Mp a * Mp b) (num cb ^ secOf a b % (Mp a * Mp b)) w (.returned (.tuple #[.slice A7 ((bitLen (Mp a * Mp b) + 7) / 8) c7, .bool true])) w7) := Lib.hid ⟨A7, c7, g7, rfl, hg7, ho7, k7⟩
        clear hg7 ho7 k7 C6
        go_wp2_with fail
        go_ret2
        exact FIN.out
      · skip
        have HPK := Lib.hid hpk2
        have KW := Lib.hid (k4)
        have C4 := Lib.hid (copied_any w4 A cap cb (HA.out.still KW.out) (by have := HCL.out; have := MB.out; omega))
        clear hpk2 k3 b3 r0 r1 r2 c0 c1 c2 k4 b4 q0 q1 q2 q3 q4
        go_wp2_with fail
        refine C4.out.mono ?_
        rintro x w5 ⟨v5, rfl, o5, k5⟩
        obtain ⟨A5, d5, rfl, e5, _, t5, _⟩ := own_form o5
        have C5 := Lib.hid (dec_with w5 _ _ _ _ (DC.out w5 pk2 (HPK.out.still k5) A5 d5 cb true t5 e5 HCL.out HCM.out))
        have K5 := Lib.hid (KW.out.none k5)
        clear o5 k5 t5 C4 HPK KW
        go_wp2_with fail
        refine C5.out.mono ?_
        rintro x w6 ⟨g6, rfl, hg6, hb6, k6⟩
        have C6 := Lib.hid (DecOut.either hb6 MB.out)
        have K6 := Lib.hid (K0.out.none (K5.out.none k6))
        clear hb6 k6 hg6 C5 K5
        go_wp2_with fail
        refine C6.out.mono ?_
        intro x w7 h
        have h' := h.back K6.out
        clear h
        obtain ⟨A7, c7, g7, rfl, hg7, ho7, k7⟩ := h'
        have FIN : Hid (DecB (Mp a * Mp b) (num cb ^ secOf a b % (Mp a * Mp b)) w (.returned (.tuple #[.slice A7 ((bitLen (Mp a * Mp b) + 7) / 8) c7, .bool true])) w7) := Lib.hid ⟨A7, c7, g7, rfl, hg7, ho7, k7⟩
        clear hg7 ho7 k7 C6
        go_wp2_with fail
        go_ret2
        exact FIN.out

end Go.Proofs.YtdmpiecdpdknaaaDoor
