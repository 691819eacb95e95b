/-
  rsa.decrypt by the primes (printed by gen_dec.py).
-/
import Derived.Test.YtdmpiecdpdknaaaGreatDoorPriv2
namespace Go.Proofs.YtdmpiecdpdknaaaGreatDoor
open Go.RowKit

/-- What a private operation leaves. -/
def DecOut (m v : Nat) (w : World) (x : Ending) (w' : World) : Prop :=
  ∃ g, x = .returned (.tuple #[.slice (some ⟨g, 0, none⟩) ((bitLen m + 7) / 8) ((bitLen m + 7) / 8), .nilIface]) ∧ w.heap.size ≤ g ∧ Blk w' g 5 ((enc ((bitLen m + 7) / 8) v).map B).toArray ∧ Kept NoBlk w w'
theorem Md.n_mono {w w' : World} {q pn pr n m q' pn' pr' n' m' : Nat} (h : Md w q pn pr n m) (h' : Md w' q' pn' pr' n' m') (hm : m < m') : n ≤ n' := by
  apply Classical.byContradiction
  intro hc
  have h1 := h.2.2.1
  have h2 := h'.2.2.2.1.bound.1
  have h3 : Pw n' ≤ Pw (n - 1) := by unfold Pw; exact Nat.pow_le_pow_right (by decide) (by omega)
  omega

set_option maxHeartbeats 4000000 in
set_option maxRecDepth 100000 in
theorem decC_nm (w : World) (pk m e d p q dp dq qi c x1 x2 y z u X : Nat) (A : Option Addr) (cap : Nat) (cb : List UInt8) (chk : Bool)
    (hpk : PrivAt w pk m e d p q dp dq qi) (hA : BytesAt w A cb) (hc : cb.length ≤ cap) (hcl : cb.length ≤ (bitLen m + 7) / 8) (hcv : num cb = c) (hcm : c < m) (pm : p < m) (qm : q < m) (p3 : 3 < p) (q3 : 3 < q) (po : p % 2 = 1) (qo : q % 2 = 1) (mo : m % 2 = 1)
    (hdp : dp ≤ p - 1) (hdq : dq ≤ q - 1) (mb : bitLen m < 2048) (pb : bitLen p ≤ 600) (qb : bitLen q ≤ 600) (e2 : 2 ≤ e ∧ e ≤ 2147483647)
    (hx1 : (c % p) ^ dp % p = x1) (hx2 : (c % q) ^ dq % q = x2) (hy : (x1 + p - x2 % p) % p = y) (hz : y * qi % p = z) (hu : z * (q % m) % m = u) (hX : (u + x2) % m = X) (hE : X ^ e % m = c) :
    Calls Tryz.prog 45 #[.pointer (some ⟨pk, 0, none⟩), .slice A cb.length cap, .bool chk] w (DecOut m X w) := by
  obtain ⟨qN, pN, rN, nN, qP, pP, rP, nP, qQ, pQ, rQ, nQ, bd, bi, gP, gQ, kP, kQ, hB, hN, hP, hQ, hD, hI, hbP, hbQ⟩ := hpk
  obtain ⟨SN, hSN⟩ : ∃ SN, (bitLen m + 7) / 8 = SN := ⟨_, rfl⟩
  obtain ⟨S1, hS1⟩ : ∃ S1, (bitLen (p - 1) + 7) / 8 = S1 := ⟨_, rfl⟩
  obtain ⟨S2, hS2⟩ : ∃ S2, (bitLen (q - 1) + 7) / 8 = S2 := ⟨_, rfl⟩
  have HSN := Lib.hid hSN
  have LTN : Hid (∀ v, v ≤ m → v < Pb SN) := Lib.hid (fun v h => by rw [← hSN]; exact lt_PbS h)
  have EN1 : Hid (num (enc S1 dp) = dp) := Lib.hid (by rw [← hS1]; exact encNum hdp)
  have EN2 : Hid (num (enc S2 dq) = dq) := Lib.hid (by rw [← hS2]; exact encNum hdq)
  have b1 := bitLen_mono (Nat.sub_le p 1)
  have b2 := bitLen_mono (Nat.sub_le q 1)
  have SZ : Hid (S1 ≤ 75 ∧ S2 ≤ 75 ∧ cb.length ≤ 8 * nN ∧ cb.length ≤ 256) := Lib.hid (by
    have h5 := hN.bytes_le
    omega)
  rw [hS1, hS2] at hB
  rw [hS1] at hbP
  rw [hS2] at hbQ
  have nPN := hP.n_mono hN pm
  have nQN := hQ.n_mono hN qm
  have NPN : Hid (nP ≤ nN ∧ nQ ≤ nN) := Lib.hid ⟨nPN, nQN⟩
  have c0 : w.cell? ⟨pk, 0, none⟩ = some (.pointer (some ⟨qN, 0, none⟩)) := hB.cellIs rfl
  have c1 : w.cell? ⟨pk, 1, none⟩ = some (.int .i64 (e : Int)) := hB.cellIs rfl
  have HB := Lib.hid hB
  have HN := Lib.hid hN
  have HP := Lib.hid hP
  have HQ := Lib.hid hQ
  have HD := Lib.hid hD
  have HI := Lib.hid hI
  have HBP := Lib.hid hbP
  have HBQ := Lib.hid hbQ
  have HA := Lib.hid hA
  have HC := Lib.hid hc
  have HCV := Lib.hid hcv
  have PL : Hid (c < m ∧ p < m ∧ q < m ∧ 3 < p ∧ 3 < q) := Lib.hid ⟨hcm, pm, qm, p3, q3⟩
  have PO := Lib.hid po
  have MO := Lib.hid mo
  have QO := Lib.hid qo
  have E3 := Lib.hid e2
  have HX1 := Lib.hid hx1
  have HX2 := Lib.hid hx2
  have HY := Lib.hid hy
  have HZ := Lib.hid hz
  have HU := Lib.hid hu
  have HX := Lib.hid hX
  have HE := Lib.hid hE
  have X1P : Hid (x1 < p) := Lib.hid (by rw [← hx1]; exact Nat.mod_lt _ (by omega))
  have X2Q : Hid (x2 < q) := Lib.hid (by rw [← hx2]; exact Nat.mod_lt _ (by omega))
  have YP : Hid (y < p) := Lib.hid (by rw [← hy]; exact Nat.mod_lt _ (by omega))
  have ZP : Hid (z < p) := Lib.hid (by rw [← hz]; exact Nat.mod_lt _ (by omega))
  have UM : Hid (u < m) := Lib.hid (by rw [← hu]; exact Nat.mod_lt _ (by omega))
  have XLT : Hid (X < m) := Lib.hid (by rw [← hX]; exact Nat.mod_lt _ (by omega))
  clear hB hN hP hQ hD hI hbP hbQ hA hc hcl hcv hcm pm qm p3 q3 po qo mo hdp hdq mb pb qb e2 hx1 hx2 hy hz hu hX hE hSN hS1 hS2 b1 b2 nPN nQN
  go_enter Tryz.func45, Tryz.ntmps45
  go_wp2_with fail
  go_quiet (fail)
  generalize hq : w.drewN nq = b
  have kwb : Kept NoBlk w b := hq ▸ (Kept.refl NoBlk _).drewN _
  have KWB := Lib.hid kwb
  have PB := Lib.hid (HB.out.kept kwb (fun e => e))
  have MN := Lib.hid (HN.out.still kwb)
  have MP := Lib.hid (HP.out.still kwb)
  have MQ := Lib.hid (HQ.out.still kwb)
  have ND := Lib.hid (HD.out.still kwb)
  have NI := Lib.hid (HI.out.still kwb)
  have BP := Lib.hid (HBP.out.still kwb)
  have BQ := Lib.hid (HBQ.out.still kwb)
  have BA := Lib.hid (HA.out.still kwb)
  have BL : Hid ((pN < b.heap.size ∧ rN < b.heap.size) ∧ (pP < b.heap.size ∧ rP < b.heap.size) ∧ (pQ < b.heap.size ∧ rQ < b.heap.size) ∧ pk < b.heap.size ∧ bi < b.heap.size ∧ bd < b.heap.size) := Lib.hid (by
    have h1 := MN.out.ltq
    have h2 := MP.out.ltq
    have h3 := MQ.out.ltq
    have h4 := MN.out.ltr MO.out
    have h5 := MP.out.ltr PO.out
    have h6 := MQ.out.ltr QO.out
    have h7 := PB.out.lt
    have h8 := NI.out.lt
    have h9 := ND.out.lt
    omega)
  have A_b : Hid (Kept NoBlk b b) := Lib.hid (Kept.refl _ _)
  clear hq kwb c0 c1 HB HN HP HQ HD HI HBP HBQ HA
  have C1 := Lib.hid (newNat_nm b)
  go_wp2_with fail
  refine C1.out.mono ?_
  rintro e v1 ⟨rfl, h, hk⟩
  obtain ⟨CT, hCT⟩ : ∃ CT, b.heap.size + 1 = CT := ⟨_, rfl⟩
  rw [hCT] at h ⊢
  have LB_CT : Hid (b.heap.size < CT) := Lib.hid (by have := A_b.out.size; omega)
  replace A_b := Lib.hid (A_b.out.none hk)
  have F_CT := Lib.hid h
  clear h hk C1 hCT
  have h := setBytes_yes CT qN pN rN 0 0 nN m A cap cb v1 F_CT.out (MN.out.still A_b.out) (by have := LB_CT.out; have := BL.out; omega) (by have := LB_CT.out; have := BL.out; omega) (BA.out.still A_b.out) (off_bytes F_CT.out (BA.out.still A_b.out)) HC.out (by have := SZ.out; omega) (by rw [HCV.out]; exact PL.out.1) SZ.out.2.2.1
  rw [HCV.out] at h
  have C2 := Lib.hid h
  clear h
  go_wp2_with fail
  refine C2.out.mono ?_
  rintro e v2 ⟨rfl, h, hk⟩
  replace A_b := Lib.hid (At2.new A_b.out hk LB_CT.out)
  replace F_CT := Lib.hid h
  clear h hk C2
  have hnil := eql_nil v2 ⟨gP, 0, none⟩ S1 kP
  have c5 : v2.cell? ⟨pk, 5, none⟩ = some (.slice (some ⟨gP, 0, none⟩) S1 kP) := (PB.out.kept A_b.out (fun e => e)).cellIs rfl
  have c3 : v2.cell? ⟨pk, 3, none⟩ = some (.pointer (some ⟨qP, 0, none⟩)) := (PB.out.kept A_b.out (fun e => e)).cellIs rfl
  have c4 : v2.cell? ⟨pk, 4, none⟩ = some (.pointer (some ⟨qQ, 0, none⟩)) := (PB.out.kept A_b.out (fun e => e)).cellIs rfl
  go_wp2_with fail
  go_quiet (fail)
  generalize hq : v2.drewN nq = v3
  have hk : Kept NoBlk v2 v3 := hq ▸ (Kept.refl NoBlk _).drewN _
  replace F_CT := Lib.hid (F_CT.out.still hk)
  replace A_b := Lib.hid (A_b.out.none hk)
  clear hq hk
  clear hnil c5 c3 c4
  have C4 := Lib.hid (newNat_nm v3)
  go_wp2_with fail
  refine C4.out.mono ?_
  rintro e v4 ⟨rfl, h, hk⟩
  obtain ⟨T0, hT0⟩ : ∃ T0, v3.heap.size + 1 = T0 := ⟨_, rfl⟩
  rw [hT0] at h ⊢
  have LB_T0 : Hid (b.heap.size < T0) := Lib.hid (by have := A_b.out.size; omega)
  have NE_CT_T0 : Hid (CT ≠ T0) := Lib.hid (by have := F_CT.out.lt; omega)
  have NE_T0_CT : Hid (T0 ≠ CT) := Lib.hid NE_CT_T0.out.symm
  replace F_CT := Lib.hid (F_CT.out.still hk)
  replace A_b := Lib.hid (A_b.out.none hk)
  have F_T0 := Lib.hid h
  clear h hk C4 hT0
  have c5 : v4.cell? ⟨pk, 5, none⟩ = some (.slice (some ⟨gP, 0, none⟩) S1 kP) := (PB.out.kept A_b.out (fun e => e)).cellIs rfl
  have hkb : pk < v4.heap.size := Nat.lt_of_lt_of_le BL.out.2.2.2.1 A_b.out.size
  go_wp2_with fail
  go_region_held3 (fun w' => w'.cell? ⟨pk, 5, none⟩ = some (.slice (some ⟨gP, 0, none⟩) S1 kP)) (go_keep) (first | (go_at_call 41; refine (newNat_nm _).mono ?_; rintro e v5 ⟨rfl, h', hk'⟩; have hk : Kept NoBlk v4 v5 := ((Kept.refl NoBlk v4).drew).trans hk'; have h : Nm v5 (v4.heap.size + 1) 0 0 := h'; clear h' hk'; have cA : v5.cell? ⟨pk, 5, none⟩ = some (.slice (some ⟨gP, 0, none⟩) S1 kP) := (hk.cell (p := ⟨pk, 5, none⟩) hkb (fun e => e)).trans c5; obtain ⟨M, hM⟩ : ∃ M, v4.heap.size + 1 = M := ⟨_, rfl⟩; rw [show v4.drew.heap.size = v4.heap.size from rfl, hM]; rw [hM] at h; have LB_M : Hid (b.heap.size < M) := Lib.hid (by have := A_b.out.size; omega); have NE_CT_M : Hid (CT ≠ M) := Lib.hid (by have := F_CT.out.lt; omega); have NE_M_CT : Hid (M ≠ CT) := Lib.hid NE_CT_M.out.symm; have NE_T0_M : Hid (T0 ≠ M) := Lib.hid (by have := F_T0.out.lt; omega); have NE_M_T0 : Hid (M ≠ T0) := Lib.hid NE_T0_M.out.symm; replace F_CT := Lib.hid (F_CT.out.still hk); replace F_T0 := Lib.hid (F_T0.out.still hk); replace A_b := Lib.hid (A_b.out.none hk); have F_M := Lib.hid h; clear h hk hM) | (go_at_call 59; have CC := Lib.hid (mod_nm T0 CT qP pP rP 0 0 nN c nP p v5 F_T0.out F_CT.out (MP.out.still A_b.out) (by have := LB_T0.out; have := BL.out; omega) (by have := LB_T0.out; have := BL.out; omega) NE_CT_T0.out); refine CC.out.mono ?_; rintro e v6 ⟨rfl, h, hk⟩; have cB : v6.cell? ⟨pk, 5, none⟩ = some (.slice (some ⟨gP, 0, none⟩) S1 kP) := (hk.cell (p := ⟨pk, 5, none⟩) (Nat.lt_of_lt_of_le BL.out.2.2.2.1 A_b.out.size) (show ¬ At2 T0 pk from fun e => by unfold At2 at e; have := LB_T0.out; have := BL.out; omega)).trans cA; have F_CT_ := F_CT.out.away F_T0.out NE_CT_T0.out hk; have F_M_ := F_M.out.away F_T0.out NE_M_T0.out hk; replace F_CT := Lib.hid F_CT_; replace F_M := Lib.hid F_M_; clear F_CT_ F_M_; replace A_b := Lib.hid (At2.new A_b.out hk LB_T0.out); replace F_T0 := Lib.hid h; clear h hk CC) | (go_at_call 61; have h := exp_nm M T0 qP pP rP 0 0 nP p (c % p) (some ⟨gP, 0, none⟩) kP (enc S1 dp) v6 F_M.out F_T0.out (MP.out.still A_b.out) PO.out (by have := LB_M.out; have := BL.out; omega) (by have := LB_M.out; have := BL.out; omega) (Nat.mod_lt _ (by have := PL.out; omega)) (BP.out.still A_b.out) (by rw [enc_length]; have := SZ.out; omega); rw [enc_length, EN1.out, HX1.out] at h; have CC := Lib.hid h; clear h; refine CC.out.mono ?_; rintro e v7 ⟨rfl, h, hk⟩; have cC : v7.cell? ⟨pk, 5, none⟩ = some (.slice (some ⟨gP, 0, none⟩) S1 kP) := (hk.cell (p := ⟨pk, 5, none⟩) (Nat.lt_of_lt_of_le BL.out.2.2.2.1 A_b.out.size) (show ¬ At2 M pk from fun e => by unfold At2 at e; have := LB_M.out; have := BL.out; omega)).trans cB; have F_CT_ := F_CT.out.away F_M.out NE_CT_M.out hk; have F_T0_ := F_T0.out.away F_M.out NE_T0_M.out hk; replace F_CT := Lib.hid F_CT_; replace F_T0 := Lib.hid F_T0_; clear F_CT_ F_T0_; replace A_b := Lib.hid (At2.new A_b.out hk LB_M.out); replace F_M := Lib.hid h; clear h hk CC))
  clear c5 cA cB cC hkb
  have c6 : v7.cell? ⟨pk, 6, none⟩ = some (.slice (some ⟨gQ, 0, none⟩) S2 kQ) := (PB.out.kept A_b.out (fun e => e)).cellIs rfl
  have hkb : pk < v7.heap.size := Nat.lt_of_lt_of_le BL.out.2.2.2.1 A_b.out.size
  go_wp2_with fail
  go_region_held3 (fun w' => w'.cell? ⟨pk, 6, none⟩ = some (.slice (some ⟨gQ, 0, none⟩) S2 kQ)) (go_keep) (first | (go_at_call 41; refine (newNat_nm _).mono ?_; rintro e v8 ⟨rfl, h', hk'⟩; have hk : Kept NoBlk v7 v8 := ((Kept.refl NoBlk v7).drew).trans hk'; have h : Nm v8 (v7.heap.size + 1) 0 0 := h'; clear h' hk'; have cA : v8.cell? ⟨pk, 6, none⟩ = some (.slice (some ⟨gQ, 0, none⟩) S2 kQ) := (hk.cell (p := ⟨pk, 6, none⟩) hkb (fun e => e)).trans c6; obtain ⟨M2, hM2⟩ : ∃ M2, v7.heap.size + 1 = M2 := ⟨_, rfl⟩; rw [show v7.drew.heap.size = v7.heap.size from rfl, hM2]; rw [hM2] at h; have LB_M2 : Hid (b.heap.size < M2) := Lib.hid (by have := A_b.out.size; omega); have NE_CT_M2 : Hid (CT ≠ M2) := Lib.hid (by have := F_CT.out.lt; omega); have NE_M2_CT : Hid (M2 ≠ CT) := Lib.hid NE_CT_M2.out.symm; have NE_T0_M2 : Hid (T0 ≠ M2) := Lib.hid (by have := F_T0.out.lt; omega); have NE_M2_T0 : Hid (M2 ≠ T0) := Lib.hid NE_T0_M2.out.symm; have NE_M_M2 : Hid (M ≠ M2) := Lib.hid (by have := F_M.out.lt; omega); have NE_M2_M : Hid (M2 ≠ M) := Lib.hid NE_M_M2.out.symm; replace F_CT := Lib.hid (F_CT.out.still hk); replace F_T0 := Lib.hid (F_T0.out.still hk); replace F_M := Lib.hid (F_M.out.still hk); replace A_b := Lib.hid (A_b.out.none hk); have F_M2 := Lib.hid h; clear h hk hM2) | (go_at_call 59; have CC := Lib.hid (mod_nm T0 CT qQ pQ rQ nP (c % p) nN c nQ q v8 F_T0.out F_CT.out (MQ.out.still A_b.out) (by have := LB_T0.out; have := BL.out; omega) (by have := LB_T0.out; have := BL.out; omega) NE_CT_T0.out); refine CC.out.mono ?_; rintro e v9 ⟨rfl, h, hk⟩; have cB : v9.cell? ⟨pk, 6, none⟩ = some (.slice (some ⟨gQ, 0, none⟩) S2 kQ) := (hk.cell (p := ⟨pk, 6, none⟩) (Nat.lt_of_lt_of_le BL.out.2.2.2.1 A_b.out.size) (show ¬ At2 T0 pk from fun e => by unfold At2 at e; have := LB_T0.out; have := BL.out; omega)).trans cA; have F_CT_ := F_CT.out.away F_T0.out NE_CT_T0.out hk; have F_M_ := F_M.out.away F_T0.out NE_M_T0.out hk; have F_M2_ := F_M2.out.away F_T0.out NE_M2_T0.out hk; replace F_CT := Lib.hid F_CT_; replace F_M := Lib.hid F_M_; replace F_M2 := Lib.hid F_M2_; clear F_CT_ F_M_ F_M2_; replace A_b := Lib.hid (At2.new A_b.out hk LB_T0.out); replace F_T0 := Lib.hid h; clear h hk CC) | (go_at_call 61; have h := exp_nm M2 T0 qQ pQ rQ 0 0 nQ q (c % q) (some ⟨gQ, 0, none⟩) kQ (enc S2 dq) v9 F_M2.out F_T0.out (MQ.out.still A_b.out) QO.out (by have := LB_M2.out; have := BL.out; omega) (by have := LB_M2.out; have := BL.out; omega) (Nat.mod_lt _ (by have := PL.out; omega)) (BQ.out.still A_b.out) (by rw [enc_length]; have := SZ.out; omega); rw [enc_length, EN2.out, HX2.out] at h; have CC := Lib.hid h; clear h; refine CC.out.mono ?_; rintro e v10 ⟨rfl, h, hk⟩; have cC : v10.cell? ⟨pk, 6, none⟩ = some (.slice (some ⟨gQ, 0, none⟩) S2 kQ) := (hk.cell (p := ⟨pk, 6, none⟩) (Nat.lt_of_lt_of_le BL.out.2.2.2.1 A_b.out.size) (show ¬ At2 M2 pk from fun e => by unfold At2 at e; have := LB_M2.out; have := BL.out; omega)).trans cB; have F_CT_ := F_CT.out.away F_M2.out NE_CT_M2.out hk; have F_T0_ := F_T0.out.away F_M2.out NE_T0_M2.out hk; have F_M_ := F_M.out.away F_M2.out NE_M_M2.out hk; replace F_CT := Lib.hid F_CT_; replace F_T0 := Lib.hid F_T0_; replace F_M := Lib.hid F_M_; clear F_CT_ F_T0_ F_M_; replace A_b := Lib.hid (At2.new A_b.out hk LB_M2.out); replace F_M2 := Lib.hid h; clear h hk CC))
  clear c6 cA cB cC hkb
  have C11 := Lib.hid (mod_nm T0 M2 qP pP rP nQ (c % q) nQ x2 nP p v10 F_T0.out F_M2.out (MP.out.still A_b.out) (by have := LB_T0.out; have := BL.out; omega) (by have := LB_T0.out; have := BL.out; omega) NE_M2_T0.out)
  go_wp2_with fail
  refine C11.out.mono ?_
  rintro e v11 ⟨rfl, h, hk⟩
  have F_CT_ := F_CT.out.away F_T0.out NE_CT_T0.out hk
  have F_M_ := F_M.out.away F_T0.out NE_M_T0.out hk
  have F_M2_ := F_M2.out.away F_T0.out NE_M2_T0.out hk
  replace F_CT := Lib.hid F_CT_
  replace F_M := Lib.hid F_M_
  replace F_M2 := Lib.hid F_M2_
  clear F_CT_ F_M_ F_M2_
  replace A_b := Lib.hid (At2.new A_b.out hk LB_T0.out)
  replace F_T0 := Lib.hid h
  clear h hk C11
  have h := sub_nm M T0 qP pP rP nP p x1 (x2 % p) v11 F_M.out F_T0.out (MP.out.still A_b.out) (by have := LB_M.out; have := BL.out; omega) NE_M_T0.out X1P.out (Nat.mod_lt _ (by have := PL.out; omega))
  rw [HY.out] at h
  have C12 := Lib.hid h
  clear h
  go_wp2_with fail
  refine C12.out.mono ?_
  rintro e v12 ⟨rfl, h, hk⟩
  have F_CT_ := F_CT.out.away F_M.out NE_CT_M.out hk
  have F_T0_ := F_T0.out.away F_M.out NE_T0_M.out hk
  have F_M2_ := F_M2.out.away F_M.out NE_M2_M.out hk
  replace F_CT := Lib.hid F_CT_
  replace F_T0 := Lib.hid F_T0_
  replace F_M2 := Lib.hid F_M2_
  clear F_CT_ F_T0_ F_M2_
  replace A_b := Lib.hid (At2.new A_b.out hk LB_M.out)
  replace F_M := Lib.hid h
  clear h hk C12
  have c7 : v12.cell? ⟨pk, 7, none⟩ = some (.pointer (some ⟨bi, 0, none⟩)) := (PB.out.kept A_b.out (fun e => e)).cellIs rfl
  have h := mulOdd_nm M bi qP pP rP nP p y qi v12 F_M.out (NI.out.still A_b.out) (MP.out.still A_b.out) PO.out (by have := LB_M.out; have := BL.out; omega) YP.out
  rw [HZ.out] at h
  have C13 := Lib.hid h
  clear h
  go_wp2_with fail
  refine C13.out.mono ?_
  rintro e v13 ⟨rfl, h, hk⟩
  have F_CT_ := F_CT.out.away F_M.out NE_CT_M.out hk
  have F_T0_ := F_T0.out.away F_M.out NE_T0_M.out hk
  have F_M2_ := F_M2.out.away F_M.out NE_M2_M.out hk
  replace F_CT := Lib.hid F_CT_
  replace F_T0 := Lib.hid F_T0_
  replace F_M2 := Lib.hid F_M2_
  clear F_CT_ F_T0_ F_M2_
  replace A_b := Lib.hid (At2.new A_b.out hk LB_M.out)
  replace F_M := Lib.hid h
  clear h hk C13
  clear c7
  have C14 := Lib.hid (expandFor_nm M qN pN rN nP z nN m v13 F_M.out (MN.out.still A_b.out) NPN.out.1)
  go_wp2_with fail
  refine C14.out.mono ?_
  rintro e v14 ⟨rfl, h, hk⟩
  have F_CT_ := F_CT.out.away F_M.out NE_CT_M.out hk
  have F_T0_ := F_T0.out.away F_M.out NE_T0_M.out hk
  have F_M2_ := F_M2.out.away F_M.out NE_M2_M.out hk
  replace F_CT := Lib.hid F_CT_
  replace F_T0 := Lib.hid F_T0_
  replace F_M2 := Lib.hid F_M2_
  clear F_CT_ F_T0_ F_M2_
  replace A_b := Lib.hid (At2.new A_b.out hk LB_M.out)
  replace F_M := Lib.hid h
  clear h hk C14
  have C15 := Lib.hid (modNat_nm qQ pQ rQ nQ q v14 (MQ.out.still A_b.out))
  go_wp2_with fail
  refine C15.out.mono ?_
  rintro e v15 ⟨rfl, h, hk⟩
  obtain ⟨X1, hX1⟩ : ∃ X1, v14.heap.size + 1 = X1 := ⟨_, rfl⟩
  rw [hX1] at h ⊢
  have LB_X1 : Hid (b.heap.size < X1) := Lib.hid (by have := A_b.out.size; omega)
  have NE_CT_X1 : Hid (CT ≠ X1) := Lib.hid (by have := F_CT.out.lt; omega)
  have NE_X1_CT : Hid (X1 ≠ CT) := Lib.hid NE_CT_X1.out.symm
  have NE_T0_X1 : Hid (T0 ≠ X1) := Lib.hid (by have := F_T0.out.lt; omega)
  have NE_X1_T0 : Hid (X1 ≠ T0) := Lib.hid NE_T0_X1.out.symm
  have NE_M_X1 : Hid (M ≠ X1) := Lib.hid (by have := F_M.out.lt; omega)
  have NE_X1_M : Hid (X1 ≠ M) := Lib.hid NE_M_X1.out.symm
  have NE_M2_X1 : Hid (M2 ≠ X1) := Lib.hid (by have := F_M2.out.lt; omega)
  have NE_X1_M2 : Hid (X1 ≠ M2) := Lib.hid NE_M2_X1.out.symm
  replace F_CT := Lib.hid (F_CT.out.still hk)
  replace F_T0 := Lib.hid (F_T0.out.still hk)
  replace F_M := Lib.hid (F_M.out.still hk)
  replace F_M2 := Lib.hid (F_M2.out.still hk)
  replace A_b := Lib.hid (A_b.out.none hk)
  have F_X1 := Lib.hid h
  clear h hk C15 hX1
  have C16 := Lib.hid (mod_nm T0 X1 qN pN rN nP (x2 % p) nQ q nN m v15 F_T0.out F_X1.out (MN.out.still A_b.out) (by have := LB_T0.out; have := BL.out; omega) (by have := LB_T0.out; have := BL.out; omega) NE_X1_T0.out)
  go_wp2_with fail
  refine C16.out.mono ?_
  rintro e v16 ⟨rfl, h, hk⟩
  have F_CT_ := F_CT.out.away F_T0.out NE_CT_T0.out hk
  have F_M_ := F_M.out.away F_T0.out NE_M_T0.out hk
  have F_M2_ := F_M2.out.away F_T0.out NE_M2_T0.out hk
  have F_X1_ := F_X1.out.away F_T0.out NE_X1_T0.out hk
  replace F_CT := Lib.hid F_CT_
  replace F_M := Lib.hid F_M_
  replace F_M2 := Lib.hid F_M2_
  replace F_X1 := Lib.hid F_X1_
  clear F_CT_ F_M_ F_M2_ F_X1_
  replace A_b := Lib.hid (At2.new A_b.out hk LB_T0.out)
  replace F_T0 := Lib.hid h
  clear h hk C16
  clear F_X1
  have h := mulOdd_nm M T0 qN pN rN nN m z (q % m) v16 F_M.out F_T0.out (MN.out.still A_b.out) MO.out (by have := LB_M.out; have := BL.out; omega) (by have := ZP.out; have := PL.out; omega)
  rw [HU.out] at h
  have C17 := Lib.hid h
  clear h
  go_wp2_with fail
  refine C17.out.mono ?_
  rintro e v17 ⟨rfl, h, hk⟩
  have F_CT_ := F_CT.out.away F_M.out NE_CT_M.out hk
  have F_T0_ := F_T0.out.away F_M.out NE_T0_M.out hk
  have F_M2_ := F_M2.out.away F_M.out NE_M2_M.out hk
  replace F_CT := Lib.hid F_CT_
  replace F_T0 := Lib.hid F_T0_
  replace F_M2 := Lib.hid F_M2_
  clear F_CT_ F_T0_ F_M2_
  replace A_b := Lib.hid (At2.new A_b.out hk LB_M.out)
  replace F_M := Lib.hid h
  clear h hk C17
  have C18 := Lib.hid (expandFor_nm M2 qN pN rN nQ x2 nN m v17 F_M2.out (MN.out.still A_b.out) NPN.out.2)
  go_wp2_with fail
  refine C18.out.mono ?_
  rintro e v18 ⟨rfl, h, hk⟩
  have F_CT_ := F_CT.out.away F_M2.out NE_CT_M2.out hk
  have F_T0_ := F_T0.out.away F_M2.out NE_T0_M2.out hk
  have F_M_ := F_M.out.away F_M2.out NE_M_M2.out hk
  replace F_CT := Lib.hid F_CT_
  replace F_T0 := Lib.hid F_T0_
  replace F_M := Lib.hid F_M_
  clear F_CT_ F_T0_ F_M_
  replace A_b := Lib.hid (At2.new A_b.out hk LB_M2.out)
  replace F_M2 := Lib.hid h
  clear h hk C18
  have h := add_nm M M2 qN pN rN nN m u x2 v18 F_M.out F_M2.out (MN.out.still A_b.out) (by have := LB_M.out; have := BL.out; omega) UM.out (by have := X2Q.out; have := PL.out; omega)
  rw [HX.out] at h
  have C19 := Lib.hid h
  clear h
  go_wp2_with fail
  refine C19.out.mono ?_
  rintro e v19 ⟨rfl, h, hk⟩
  have F_CT_ := F_CT.out.away F_M.out NE_CT_M.out hk
  have F_T0_ := F_T0.out.away F_M.out NE_T0_M.out hk
  have F_M2_ := F_M2.out.away F_M.out NE_M2_M.out hk
  replace F_CT := Lib.hid F_CT_
  replace F_T0 := Lib.hid F_T0_
  replace F_M2 := Lib.hid F_M2_
  clear F_CT_ F_T0_ F_M2_
  replace A_b := Lib.hid (At2.new A_b.out hk LB_M.out)
  replace F_M := Lib.hid h
  clear h hk C19
  clear F_T0 F_M2
  cases chk
  · skip
    have C20 := Lib.hid (bytes_nm M qN pN rN nN m X SN v19 F_M.out (MN.out.still A_b.out) HSN.out (LTN.out _ (Nat.le_of_lt XLT.out)))
    go_wp2_with fail
    refine C20.out.mono ?_
    rintro e v20 ⟨rfl, h, hk⟩
    have FIN : Hid (DecOut m X w (.returned (.tuple #[.slice (some ⟨v19.heap.size, 0, none⟩) SN SN, .nilIface])) v20) := Lib.hid ⟨v19.heap.size, by rw [HSN.out], Nat.le_trans KWB.out.size A_b.out.size, by rw [HSN.out]; exact h, KWB.out.none (A_b.out.none hk)⟩
    clear h hk C20
    go_wp2_with fail
    go_ret2
    exact FIN.out
  · skip
    have C20 := Lib.hid (newNat_nm v19)
    go_wp2_with fail
    refine C20.out.mono ?_
    rintro e v20 ⟨rfl, h, hk⟩
    obtain ⟨C1, hC1⟩ : ∃ C1, v19.heap.size + 1 = C1 := ⟨_, rfl⟩
    rw [hC1] at h ⊢
    have LB_C1 : Hid (b.heap.size < C1) := Lib.hid (by have := A_b.out.size; omega)
    have NE_CT_C1 : Hid (CT ≠ C1) := Lib.hid (by have := F_CT.out.lt; omega)
    have NE_C1_CT : Hid (C1 ≠ CT) := Lib.hid NE_CT_C1.out.symm
    have NE_M_C1 : Hid (M ≠ C1) := Lib.hid (by have := F_M.out.lt; omega)
    have NE_C1_M : Hid (C1 ≠ M) := Lib.hid NE_M_C1.out.symm
    replace F_CT := Lib.hid (F_CT.out.still hk)
    replace F_M := Lib.hid (F_M.out.still hk)
    replace A_b := Lib.hid (A_b.out.none hk)
    have F_C1 := Lib.hid h
    clear h hk C20 hC1
    have hee : (e : Int) ≤ 2147483647 := by have := E3.out; omega
    have heu : IntKind.u64.wrap (e : Int) = (e : Int) := by rw [IntKind.wrap_u64]; omega
    have h := expShort_nm C1 M qN pN rN 0 0 nN m X e v20 F_C1.out F_M.out (MN.out.still A_b.out) MO.out (by have := LB_C1.out; have := BL.out; omega) (by have := LB_C1.out; have := BL.out; omega) XLT.out (by have := E3.out; omega) (by have := E3.out; omega)
    rw [HE.out] at h
    have C21 := Lib.hid h
    clear h
    go_wp2_with fail
    refine C21.out.mono ?_
    rintro e v21 ⟨rfl, h, hk⟩
    have F_CT_ := F_CT.out.away F_C1.out NE_CT_C1.out hk
    have F_M_ := F_M.out.away F_C1.out NE_M_C1.out hk
    replace F_CT := Lib.hid F_CT_
    replace F_M := Lib.hid F_M_
    clear F_CT_ F_M_
    replace A_b := Lib.hid (At2.new A_b.out hk LB_C1.out)
    replace F_C1 := Lib.hid h
    clear h hk C21
    clear hee heu
    have h := equal_nm C1 CT nN c c v21 F_C1.out F_CT.out
    rw [show ((bitN (decide (c = c)) : Nat) : Int) = 1 by rw [decide_eq_true rfl]; rfl] at h
    have C22 := Lib.hid h
    clear h
    go_wp2_with fail
    refine C22.out.mono ?_
    rintro e v22 ⟨rfl, hk⟩
    replace F_CT := Lib.hid (F_CT.out.still hk)
    replace F_M := Lib.hid (F_M.out.still hk)
    replace F_C1 := Lib.hid (F_C1.out.still hk)
    replace A_b := Lib.hid (A_b.out.none hk)
    clear hk C22
    have C23 := Lib.hid (bytes_nm M qN pN rN nN m X SN v22 F_M.out (MN.out.still A_b.out) HSN.out (LTN.out _ (Nat.le_of_lt XLT.out)))
    go_wp2_with fail
    refine C23.out.mono ?_
    rintro e v23 ⟨rfl, h, hk⟩
    have FIN : Hid (DecOut m X w (.returned (.tuple #[.slice (some ⟨v22.heap.size, 0, none⟩) SN SN, .nilIface])) v23) := Lib.hid ⟨v22.heap.size, by rw [HSN.out], Nat.le_trans KWB.out.size A_b.out.size, by rw [HSN.out]; exact h, KWB.out.none (A_b.out.none hk)⟩
    clear h hk C23
    go_wp2_with fail
    go_ret2
    exact FIN.out

end Go.Proofs.YtdmpiecdpdknaaaGreatDoor
