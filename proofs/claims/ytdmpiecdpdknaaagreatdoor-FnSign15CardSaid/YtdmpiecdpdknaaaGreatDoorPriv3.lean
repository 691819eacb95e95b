/-
  rsa.NewPrivateKey, impl.private.
-/
import Derived.Test.YtdmpiecdpdknaaaGreatDoorPriv2
namespace Go.Proofs.YtdmpiecdpdknaaaGreatDoor
open Go.RowKit

theorem encT_len8 {w : World} {q pn pr n m d : Nat} (h : Md w q pn pr n m) (hd : d < m) : (encT d).length ≤ 8 * n := by
  have h1 := h.bytes_le
  rw [encT_length_bits]
  have := bitLen_mono (Nat.le_of_lt hd)
  omega

set_option maxRecDepth 20000 in
theorem newPrivateKey_any (w : World) (aN aD aP aQ : Option Addr) (cN cD cP cQ : Nat) (bN bP bQ : List UInt8) (m e d p q dp dq : Nat)
    (hN : BytesAt w aN bN) (hD : BytesAt w aD (encT d)) (hP : BytesAt w aP bP) (hQ : BytesAt w aQ bQ) (lN : bN.length ≤ 256) (lP : bP.length ≤ 256) (lQ : bQ.length ≤ 256) (kN : bN.length ≤ cN) (kD : (encT d).length ≤ cD) (kP : bP.length ≤ cP) (kQ : bQ.length ≤ cQ)
    (vN : num bN = m) (vP : num bP = p) (vQ : num bQ = q) (lD : (encT d).length ≤ 256) (K : KeyN m e d p q dp dq (qiOf p q)) :
    Calls Tryz.prog 33 #[.slice aN bN.length cN, .int .i64 (e : Int), .slice aD (encT d).length cD, .slice aP bP.length cP, .slice aQ bQ.length cQ] w (PrivOut m e d p q dp dq (qiOf p q) w) := by
  have m1 : 1 < m := by have := K.pm; have := K.p3; omega
  have p1 : 1 < p := by have := K.p3; omega
  have q1 : 1 < q := by have := K.q3; omega
  have C1 := Lib.hid (newMod_md aN cN bN w hN hN.below kN lN (by rw [vN]; exact m1))
  have HD := Lib.hid hD
  have HP := Lib.hid hP
  have HQ := Lib.hid hQ
  have KN := Lib.hid K
  have VN := Lib.hid vN
  have VP := Lib.hid vP
  have VQ := Lib.hid vQ
  clear hN hD hP hQ K vN vP vQ
  go_enter Tryz.func33, Tryz.ntmps33
  go_wp2_with fail
  refine C1.out.mono ?_
  rintro x w1 ⟨qN, pN, rN, nN, rfl, _, _, _, hm1, k1⟩
  rw [VN.out] at hm1
  have hp1 := HP.out.still k1
  have C2 := Lib.hid (newMod_md aP cP bP w1 hp1 hp1.below kP lP (by rw [VP.out]; exact p1))
  have M1 := Lib.hid hm1
  have K1 := Lib.hid k1
  clear hm1 k1 hp1 C1
  go_wp2_with fail
  refine C2.out.mono ?_
  rintro x w2 ⟨qP, pP, rP, nP, rfl, _, _, _, hm2, k2⟩
  rw [VP.out] at hm2
  have hq2 := HQ.out.still (K1.out.none k2)
  have C3 := Lib.hid (newMod_md aQ cQ bQ w2 hq2 hq2.below kQ lQ (by rw [VQ.out]; exact q1))
  have M2 := Lib.hid hm2
  have M12 := Lib.hid (M1.out.still k2)
  have K2 := Lib.hid (K1.out.none k2)
  clear hm2 k2 hq2 C2 M1 K1
  go_wp2_with fail
  refine C3.out.mono ?_
  rintro x w3 ⟨qQ, pQ, rQ, nQ, rfl, _, _, _, hm3, k3⟩
  rw [VQ.out] at hm3
  have M3 := Lib.hid hm3
  have M23 := Lib.hid (M2.out.still k3)
  have M13 := Lib.hid (M12.out.still k3)
  have K3 := Lib.hid (K2.out.none k3)
  clear hm3 k3 C3 M2 M12 K2
  go_wp2_with fail
  refine (newNat_nm w3).mono ?_
  rintro x w4 ⟨rfl, h4, k4⟩
  have hd4 := HD.out.still (K3.out.none k4)
  have hm4 := M13.out.still k4
  have hlt := M13.out.ltq
  have hlr := M13.out.ltr KN.out.mo
  have h := setBytes_yes (w3.heap.size + 1) qN pN rN 0 0 nN m aD cD (encT d) w4 h4 hm4 (by omega) (by omega) hd4 (off_bytes h4 hd4) kD (by omega) (by rw [num_encT]; exact KN.out.dm) (encT_len8 hm4 KN.out.dm)
  rw [num_encT] at h
  have C5 := Lib.hid h
  have K4 := Lib.hid k4
  clear h4 k4 hd4 hm4 hlt hlr h
  go_wp2_with fail
  refine C5.out.mono ?_
  rintro x w5 ⟨rfl, h5, k5⟩
  have k35 : Kept NoBlk w3 w5 := At2.new K4.out k5 (Nat.lt_succ_self _)
  have C6 := Lib.hid (newPriv_nm w5 qN pN rN nN qP pP rP nP qQ pQ rQ nQ (w3.heap.size + 1) m e d p q dp dq (M13.out.still k35) (M23.out.still k35) (M3.out.still k35) h5 KN.out)
  have K5 := Lib.hid (K3.out.none k35)
  clear h5 k5 k35 C5
  go_wp2_with fail
  refine C6.out.mono ?_
  rintro x w6 ⟨pk, rfl, hpk, k6⟩
  have FIN : Hid (PrivOut m e d p q dp dq (qiOf p q) w (.returned (.tuple #[.pointer (some ⟨pk, 0, none⟩), .nilIface])) w6) := Lib.hid ⟨pk, rfl, hpk, K5.out.none k6⟩
  clear hpk k6 C6
  go_wp2_with fail
  go_ret2
  exact FIN.out

/-- A key's value. -/
def KeyV (w : World) (m e d : Nat) (bP bQ : List UInt8) (v : Value) : Prop := ∃ (aN aD aP aQ : Option Addr) (cN cD cP cQ : Nat),
  v = .agg #[.slice aN (encT m).length cN, .int .i64 (e : Int), .slice aD (encT d).length cD, .slice aP bP.length cP, .slice aQ bQ.length cQ] ∧ BytesAt w aN (encT m) ∧ BytesAt w aD (encT d) ∧ BytesAt w aP bP ∧ BytesAt w aQ bQ ∧
  (encT m).length ≤ cN ∧ (encT d).length ≤ cD ∧ bP.length ≤ cP ∧ bQ.length ≤ cQ

theorem KeyV.still {w w' : World} {m e d : Nat} {bP bQ : List UInt8} {v : Value} (h : KeyV w m e d bP bQ v) (k : Kept NoBlk w w') : KeyV w' m e d bP bQ v := by
  obtain ⟨aN, aD, aP, aQ, cN, cD, cP, cQ, rfl, hN, hD, hP, hQ, kN, kD, kP, kQ⟩ := h
  exact ⟨aN, aD, aP, aQ, cN, cD, cP, cQ, rfl, hN.still k, hD.still k, hP.still k, hQ.still k, kN, kD, kP, kQ⟩

set_option maxHeartbeats 1600000 in
set_option maxRecDepth 20000 in
theorem private_any (w : World) (m e d p q dp dq : Nat) (bP bQ : List UInt8) (v : Value) (hv : KeyV w m e d bP bQ v) (vP : num bP = p) (vQ : num bQ = q) (lN : (encT m).length ≤ 256) (lD : (encT d).length ≤ 256) (lP : bP.length ≤ 256) (lQ : bQ.length ≤ 256) (K : KeyN m e d p q dp dq (qiOf p q)) :
    Calls Tryz.prog 18 #[v] w (PrivOut m e d p q dp dq (qiOf p q) w) := by
  obtain ⟨aN, aD, aP, aQ, cN, cD, cP, cQ, rfl, hN, hD, hP, hQ, kN, kD, kP, kQ⟩ := hv
  obtain ⟨w0, hw0⟩ : ∃ w0, w.alloc (.cells #[.slice aN (encT m).length cN, .int .i64 (e : Int), .slice aD (encT d).length cD, .slice aP bP.length cP, .slice aQ bQ.length cQ] 26) = w0 := ⟨_, rfl⟩
  have hb := Blk.new w 26 #[.slice aN (encT m).length cN, .int .i64 (e : Int), .slice aD (encT d).length cD, .slice aP bP.length cP, .slice aQ bQ.length cQ]
  rw [hw0] at hb
  have k0 : Kept NoBlk w w0 := by rw [← hw0]; exact (Kept.refl _ w).alloc _
  have hg := hb.lt
  have c0 : w0.cell? ⟨w.heap.size, 0, none⟩ = some (.slice aN (encT m).length cN) := hb.cellIs rfl
  have c1 : w0.cell? ⟨w.heap.size, 1, none⟩ = some (.int .i64 (e : Int)) := hb.cellIs rfl
  have c2 : w0.cell? ⟨w.heap.size, 2, none⟩ = some (.slice aD (encT d).length cD) := hb.cellIs rfl
  have c3 : w0.cell? ⟨w.heap.size, 3, none⟩ = some (.slice aP bP.length cP) := hb.cellIs rfl
  have c4 : w0.cell? ⟨w.heap.size, 4, none⟩ = some (.slice aQ bQ.length cQ) := hb.cellIs rfl
  have HB := Lib.hid hb
  have H1 : Hid (∀ w', Kept NoBlk w0 w' → _) := Lib.hid (fun w' k => copied_any w' aN cN (encT m) ((hN.still k0).still k) (by omega))
  have H2 : Hid (∀ w', Kept NoBlk w0 w' → _) := Lib.hid (fun w' k => copied_any w' aD cD (encT d) ((hD.still k0).still k) (by omega))
  have H3 : Hid (∀ w', Kept NoBlk w0 w' → _) := Lib.hid (fun w' k => copied_any w' aP cP bP ((hP.still k0).still k) (by omega))
  have H4 : Hid (∀ w', Kept NoBlk w0 w' → _) := Lib.hid (fun w' k => copied_any w' aQ cQ bQ ((hQ.still k0).still k) (by omega))
  have KN := Lib.hid K
  have VP := Lib.hid vP
  have VQ := Lib.hid vQ
  have K0 := Lib.hid k0
  clear hN hD hP hQ hb K vP vQ k0
  go_enter Tryz.func18, Tryz.ntmps18
  go_wp2_with fail
  go_region_held3 (fun w' => w'.cell? ⟨w.heap.size, 0, none⟩ = some (.slice aN (encT m).length cN) ∧ w'.cell? ⟨w.heap.size, 1, none⟩ = some (.int .i64 (e : Int)) ∧ w'.cell? ⟨w.heap.size, 2, none⟩ = some (.slice aD (encT d).length cD) ∧ w'.cell? ⟨w.heap.size, 3, none⟩ = some (.slice aP bP.length cP) ∧ w'.cell? ⟨w.heap.size, 4, none⟩ = some (.slice aQ bQ.length cQ)) (exact ⟨by assumption, by assumption, by assumption, by assumption, by assumption⟩) (first
    | (go_at_call 21; (with_reducible refine (H1.out w0.drew ((Kept.refl NoBlk w0).drew)).mono ?_); rintro x w1 ⟨v1, rfl, o1, k1'⟩; have k1 : Kept NoBlk w0 w1 := ((Kept.refl NoBlk w0).drew).trans k1'; obtain ⟨A1, d1, rfl, e1, _, t1, _⟩ := own_form o1; have b1 := HB.out.kept k1 (fun e => e); have i0 : w1.cell? ⟨w.heap.size, 0, none⟩ = some (.slice aN (encT m).length cN) := b1.cellIs rfl; have i1 : w1.cell? ⟨w.heap.size, 1, none⟩ = some (.int .i64 (e : Int)) := b1.cellIs rfl; have i2 : w1.cell? ⟨w.heap.size, 2, none⟩ = some (.slice aD (encT d).length cD) := b1.cellIs rfl; have i3 : w1.cell? ⟨w.heap.size, 3, none⟩ = some (.slice aP bP.length cP) := b1.cellIs rfl; have i4 : w1.cell? ⟨w.heap.size, 4, none⟩ = some (.slice aQ bQ.length cQ) := b1.cellIs rfl)
    | (go_at_call 21; (with_reducible refine (H2.out w1 k1).mono ?_); rintro x w2 ⟨v2, rfl, o2, k2'⟩; have k2 : Kept NoBlk w0 w2 := k1.none k2'; obtain ⟨A2, d2, rfl, e2, _, t2, _⟩ := own_form o2; have b2 := HB.out.kept k2 (fun e => e); have j0 : w2.cell? ⟨w.heap.size, 0, none⟩ = some (.slice aN (encT m).length cN) := b2.cellIs rfl; have j1 : w2.cell? ⟨w.heap.size, 1, none⟩ = some (.int .i64 (e : Int)) := b2.cellIs rfl; have j2 : w2.cell? ⟨w.heap.size, 2, none⟩ = some (.slice aD (encT d).length cD) := b2.cellIs rfl; have j3 : w2.cell? ⟨w.heap.size, 3, none⟩ = some (.slice aP bP.length cP) := b2.cellIs rfl; have j4 : w2.cell? ⟨w.heap.size, 4, none⟩ = some (.slice aQ bQ.length cQ) := b2.cellIs rfl)
    | (go_at_call 21; (with_reducible refine (H3.out w2 k2).mono ?_); rintro x w3 ⟨v3, rfl, o3, k3'⟩; have k3 : Kept NoBlk w0 w3 := k2.none k3'; obtain ⟨A3, d3, rfl, e3, _, t3, _⟩ := own_form o3; have b3 := HB.out.kept k3 (fun e => e); have l0 : w3.cell? ⟨w.heap.size, 0, none⟩ = some (.slice aN (encT m).length cN) := b3.cellIs rfl; have l1 : w3.cell? ⟨w.heap.size, 1, none⟩ = some (.int .i64 (e : Int)) := b3.cellIs rfl; have l2 : w3.cell? ⟨w.heap.size, 2, none⟩ = some (.slice aD (encT d).length cD) := b3.cellIs rfl; have l3 : w3.cell? ⟨w.heap.size, 3, none⟩ = some (.slice aP bP.length cP) := b3.cellIs rfl; have l4 : w3.cell? ⟨w.heap.size, 4, none⟩ = some (.slice aQ bQ.length cQ) := b3.cellIs rfl)
    | (go_at_call 21; (with_reducible refine (H4.out w3 k3).mono ?_); rintro x w4 ⟨v4, rfl, o4, k4'⟩; have k4 : Kept NoBlk w0 w4 := k3.none k4'; obtain ⟨A4, d4, rfl, e4, _, t4, _⟩ := own_form o4; have b4 := HB.out.kept k4 (fun e => e); have s0 : w4.cell? ⟨w.heap.size, 0, none⟩ = some (.slice aN (encT m).length cN) := b4.cellIs rfl; have s1 : w4.cell? ⟨w.heap.size, 1, none⟩ = some (.int .i64 (e : Int)) := b4.cellIs rfl; have s2 : w4.cell? ⟨w.heap.size, 2, none⟩ = some (.slice aD (encT d).length cD) := b4.cellIs rfl; have s3 : w4.cell? ⟨w.heap.size, 3, none⟩ = some (.slice aP bP.length cP) := b4.cellIs rfl; have s4 : w4.cell? ⟨w.heap.size, 4, none⟩ = some (.slice aQ bQ.length cQ) := b4.cellIs rfl)
    | (go_at_call 33; refine (newPrivateKey_any w4 A1 A2 A3 A4 d1 d2 d3 d4 (encT m) bP bQ m e d p q dp dq (BytesAt.still (BytesAt.still (BytesAt.still t1 k2') k3') k4') (BytesAt.still (BytesAt.still t2 k3') k4') (BytesAt.still t3 k4') t4 lN lP lQ e1 e2 e3 e4 (num_encT m) VP.out VQ.out lD KN.out).mono ?_; rintro x w5 ⟨pk, rfl, hpk, k5⟩; have b5 := HB.out.kept (k4.none k5) (fun e => e); have r0 : w5.cell? ⟨w.heap.size, 0, none⟩ = some (.slice aN (encT m).length cN) := b5.cellIs rfl; have r1 : w5.cell? ⟨w.heap.size, 1, none⟩ = some (.int .i64 (e : Int)) := b5.cellIs rfl; have r2 : w5.cell? ⟨w.heap.size, 2, none⟩ = some (.slice aD (encT d).length cD) := b5.cellIs rfl; have r3 : w5.cell? ⟨w.heap.size, 3, none⟩ = some (.slice aP bP.length cP) := b5.cellIs rfl; have r4 : w5.cell? ⟨w.heap.size, 4, none⟩ = some (.slice aQ bQ.length cQ) := b5.cellIs rfl))
  all_goals
    have FIN : Hid (PrivOut m e d p q dp dq (qiOf p q) w (.returned (.tuple #[.pointer (some ⟨pk, 0, none⟩), .nilIface])) w5) := Lib.hid ⟨pk, rfl, hpk, (K0.out.none k4).none k5⟩
    clear hpk k5 k4 k3 k2 k1
    go_wp2_with fail
    go_ret2
    exact FIN.out

end Go.Proofs.YtdmpiecdpdknaaaGreatDoor
