/-
  rsa.newPrivateKey (printed by gen_priv.py).
-/
import Derived.Test.YtdmpiecdpdknaaaGreatDoorPriv
namespace Go.Proofs.YtdmpiecdpdknaaaGreatDoor
open Go.RowKit

/-- A private key in memory. -/
def PrivAt (w : World) (pk m e d p q dp dq qi : Nat) : Prop :=
  ∃ qN pN rN nN qP pP rP nP qQ pQ rQ nQ bd bi gP gQ kP kQ : Nat, Blk w pk 80 #[.pointer (some ⟨qN, 0, none⟩), .int .i64 (e : Int), .pointer (some ⟨bd, 0, none⟩), .pointer (some ⟨qP, 0, none⟩), .pointer (some ⟨qQ, 0, none⟩), .slice (some ⟨gP, 0, none⟩) ((bitLen (p - 1) + 7) / 8) kP, .slice (some ⟨gQ, 0, none⟩) ((bitLen (q - 1) + 7) / 8) kQ, .pointer (some ⟨bi, 0, none⟩), .bool false] ∧
    Md w qN pN rN nN m ∧ Md w qP pP rP nP p ∧ Md w qQ pQ rQ nQ q ∧ Nm w bd nN d ∧ Nm w bi nP qi ∧ BytesAt w (some ⟨gP, 0, none⟩) (enc ((bitLen (p - 1) + 7) / 8) dp) ∧ BytesAt w (some ⟨gQ, 0, none⟩) (enc ((bitLen (q - 1) + 7) / 8) dq)

/-- What newPrivateKey leaves. -/
def PrivOut (m e d p q dp dq qi : Nat) (w : World) (x : Ending) (w' : World) : Prop := ∃ pk, x = .returned (.tuple #[.pointer (some ⟨pk, 0, none⟩), .nilIface]) ∧ PrivAt w' pk m e d p q dp dq qi ∧ Kept NoBlk w w'

set_option maxHeartbeats 4000000 in
set_option maxRecDepth 100000 in
theorem newPriv_nm (b : World) (qN pN rN nN qP pP rP nP qQ pQ rQ nQ bd : Nat) (m e d p q dp dq : Nat)
    (hN : Md b qN pN rN nN m) (hP : Md b qP pP rP nP p) (hQ : Md b qQ pQ rQ nQ q) (hD : Nm b bd nN d) (K : KeyN m e d p q dp dq (qiOf p q)) :
    Calls Tryz.prog 43 #[.pointer (some ⟨qN, 0, none⟩), .int .i64 (e : Int), .pointer (some ⟨bd, 0, none⟩), .pointer (some ⟨qP, 0, none⟩), .pointer (some ⟨qQ, 0, none⟩)] b (PrivOut m e d p q dp dq (qiOf p q) b) := by
  have MN := Lib.hid hN
  have MP := Lib.hid hP
  have MQ := Lib.hid hQ
  have ND := Lib.hid hD
  have KN := Lib.hid K
  have BL : Hid ((pN < b.heap.size ∧ rN < b.heap.size) ∧ (pP < b.heap.size ∧ rP < b.heap.size) ∧ (pQ < b.heap.size ∧ rQ < b.heap.size)) := Lib.hid (by
    have h1 := MN.out.ltq
    have h2 := MP.out.ltq
    have h3 := MQ.out.ltq
    have h4 := MN.out.ltr KN.out.mo
    have h5 := MP.out.ltr KN.out.po
    have h6 := MQ.out.ltr KN.out.qo
    omega)
  have A_b : Hid (Kept NoBlk b b) := Lib.hid (Kept.refl _ _)
  obtain ⟨SP, hSP⟩ : ∃ SP, (bitLen p + 7) / 8 = SP := ⟨_, rfl⟩
  obtain ⟨SQ, hSQ⟩ : ∃ SQ, (bitLen q + 7) / 8 = SQ := ⟨_, rfl⟩
  obtain ⟨S1, hS1⟩ : ∃ S1, (bitLen (p - 1) + 7) / 8 = S1 := ⟨_, rfl⟩
  obtain ⟨S2, hS2⟩ : ∃ S2, (bitLen (q - 1) + 7) / 8 = S2 := ⟨_, rfl⟩
  have HSP := Lib.hid hSP
  have HSQ := Lib.hid hSQ
  have HS1 := Lib.hid hS1
  have HS2 := Lib.hid hS2
  have ENP : Hid (∀ v, v ≤ p → num (enc SP v) = v) := Lib.hid (fun v h => by rw [← hSP]; exact encNum h)
  have ENQ : Hid (∀ v, v ≤ q → num (enc SQ v) = v) := Lib.hid (fun v h => by rw [← hSQ]; exact encNum h)
  have EN1 : Hid (∀ v, v ≤ p - 1 → num (enc S1 v) = v) := Lib.hid (fun v h => by rw [← hS1]; exact encNum h)
  have EN2 : Hid (∀ v, v ≤ q - 1 → num (enc S2 v) = v) := Lib.hid (fun v h => by rw [← hS2]; exact encNum h)
  have LTP : Hid (∀ v, v ≤ p → v < Pb SP) := Lib.hid (fun v h => by rw [← hSP]; exact lt_PbS h)
  have LTQ : Hid (∀ v, v ≤ q → v < Pb SQ) := Lib.hid (fun v h => by rw [← hSQ]; exact lt_PbS h)
  have LT1 : Hid (∀ v, v ≤ p - 1 → v < Pb S1) := Lib.hid (fun v h => by rw [← hS1]; exact lt_PbS h)
  have LT2 : Hid (∀ v, v ≤ q - 1 → v < Pb S2) := Lib.hid (fun v h => by rw [← hS2]; exact lt_PbS h)
  have SZ : Hid (SP ≤ 75 ∧ SQ ≤ 75) := Lib.hid (by
    have h1 := KN.out.pb
    have h2 := KN.out.qb
    omega)
  have DPL : Hid (dp ≤ p - 1) := Lib.hid (by have := KN.out.p3; rw [← KN.out.dpd]; exact Nat.le_of_lt (Nat.mod_lt _ (by omega)))
  have DQL : Hid (dq ≤ q - 1) := Lib.hid (by have := KN.out.q3; rw [← KN.out.dqd]; exact Nat.le_of_lt (Nat.mod_lt _ (by omega)))
  have EXm : Hid ((p - 1) % 2 = 0) := Lib.hid (by have := KN.out.po; have := KN.out.p3; omega)
  have EYm : Hid ((q - 1) % 2 = 0) := Lib.hid (by have := KN.out.qo; have := KN.out.q3; omega)
  clear hN hP hQ hD K hSP hSQ hS1 hS2
  go_enter Tryz.func43, Tryz.ntmps43
  have C1 := Lib.hid (modNat_nm qP pP rP nP p b (MP.out.still A_b.out))
  go_wp2_with fail
  refine C1.out.mono ?_
  rintro e v1 ⟨rfl, h, hk⟩
  obtain ⟨X1, hX1⟩ : ∃ X1, b.heap.size + 1 = X1 := ⟨_, rfl⟩
  rw [hX1] at h ⊢
  have LB_X1 : Hid (b.heap.size < X1) := Lib.hid (by have := A_b.out.size; omega)
  replace A_b := Lib.hid (A_b.out.none hk)
  have F_X1 := Lib.hid h
  clear h hk C1 hX1
  have C2 := Lib.hid (subOne_ge_nm X1 qP pP rP nP p p v1 F_X1.out (MP.out.still A_b.out) (by have := LB_X1.out; have := BL.out; omega) (by have := KN.out.p3; omega))
  go_wp2_with fail
  refine C2.out.mono ?_
  rintro e v2 ⟨rfl, h, hk⟩
  replace A_b := Lib.hid (At2.new A_b.out hk LB_X1.out)
  replace F_X1 := Lib.hid h
  clear h hk C2
  have C3 := Lib.hid (bytes_nm X1 qP pP rP nP p (p - 1) SP v2 F_X1.out (MP.out.still A_b.out) HSP.out (LTP.out _ (Nat.sub_le _ _)))
  go_wp2_with fail
  refine C3.out.mono ?_
  rintro e v3 ⟨rfl, h, hk⟩
  obtain ⟨gY1, hgY1⟩ : ∃ gY1, v2.heap.size = gY1 := ⟨_, rfl⟩
  rw [hgY1] at h ⊢
  replace F_X1 := Lib.hid (F_X1.out.still hk)
  replace A_b := Lib.hid (A_b.out.none hk)
  have F_Y1 := Lib.hid h.bytes
  clear h hk C3 hgY1
  have h := newMod_md (some ⟨gY1, 0, none⟩) SP (enc SP (p - 1)) v3 F_Y1.out (BytesAt.below F_Y1.out) (by rw [enc_length]; exact Nat.le_refl _) (by rw [enc_length]; have := SZ.out; omega) (by rw [ENP.out _ (Nat.sub_le _ _)]; have := KN.out.p3; omega)
  rw [enc_length] at h
  have C4 := Lib.hid h
  clear h
  go_wp2_with fail
  refine C4.out.mono ?_
  rintro e v4 ⟨qXm, nXm, rXm, lXm, rfl, b1, b2, b3, h, hk⟩
  have NE_Xm_X1 : Hid (nXm ≠ X1) := Lib.hid (by have := F_X1.out.lt; omega)
  rw [ENP.out _ (Nat.sub_le _ _)] at h
  replace F_X1 := Lib.hid (F_X1.out.still hk)
  replace F_Y1 := Lib.hid (F_Y1.out.still hk)
  replace A_b := Lib.hid (A_b.out.none hk)
  have F_Xm := Lib.hid (h.evenPr EXm.out)
  clear h hk C4 b1 b2 b3
  clear F_X1 F_Y1
  have C5 := Lib.hid (newNat_nm v4)
  go_wp2_with fail
  refine C5.out.mono ?_
  rintro e v5 ⟨rfl, h, hk⟩
  obtain ⟨P1, hP1⟩ : ∃ P1, v4.heap.size + 1 = P1 := ⟨_, rfl⟩
  rw [hP1] at h ⊢
  have LB_P1 : Hid (b.heap.size < P1) := Lib.hid (by have := A_b.out.size; omega)
  have NE_Xm_P1 : Hid (nXm ≠ P1) := Lib.hid (by have := F_Xm.out.ltq; omega)
  replace F_Xm := Lib.hid (F_Xm.out.still hk)
  replace A_b := Lib.hid (A_b.out.none hk)
  have F_P1 := Lib.hid h
  clear h hk C5 hP1
  have h := mod_nm P1 bd qXm nXm nXm 0 0 nN d lXm (p - 1) v5 F_P1.out (ND.out.still A_b.out) F_Xm.out NE_Xm_P1.out NE_Xm_P1.out (by have := LB_P1.out; have := ND.out.lt; omega)
  rw [KN.out.dpd] at h
  have C6 := Lib.hid h
  clear h
  go_wp2_with fail
  refine C6.out.mono ?_
  rintro e v6 ⟨rfl, h, hk⟩
  have F_Xm_ := F_Xm.out.away F_P1.out NE_Xm_P1.out NE_Xm_P1.out hk
  replace F_Xm := Lib.hid F_Xm_
  clear F_Xm_
  replace A_b := Lib.hid (At2.new A_b.out hk LB_P1.out)
  replace F_P1 := Lib.hid h
  clear h hk C6
  have C7 := Lib.hid (bytes_nm P1 qXm nXm nXm lXm (p - 1) dp S1 v6 F_P1.out F_Xm.out HS1.out (LT1.out _ DPL.out))
  go_wp2_with fail
  refine C7.out.mono ?_
  rintro e v7 ⟨rfl, h, hk⟩
  obtain ⟨gD1, hgD1⟩ : ∃ gD1, v6.heap.size = gD1 := ⟨_, rfl⟩
  rw [hgD1] at h ⊢
  replace F_Xm := Lib.hid (F_Xm.out.still hk)
  replace F_P1 := Lib.hid (F_P1.out.still hk)
  replace A_b := Lib.hid (A_b.out.none hk)
  have F_D1 := Lib.hid h.bytes
  clear h hk C7 hgD1
  clear F_P1 F_Xm
  have C8 := Lib.hid (modNat_nm qQ pQ rQ nQ q v7 (MQ.out.still A_b.out))
  go_wp2_with fail
  refine C8.out.mono ?_
  rintro e v8 ⟨rfl, h, hk⟩
  obtain ⟨X2, hX2⟩ : ∃ X2, v7.heap.size + 1 = X2 := ⟨_, rfl⟩
  rw [hX2] at h ⊢
  have LB_X2 : Hid (b.heap.size < X2) := Lib.hid (by have := A_b.out.size; omega)
  replace F_D1 := Lib.hid (F_D1.out.still hk)
  replace A_b := Lib.hid (A_b.out.none hk)
  have F_X2 := Lib.hid h
  clear h hk C8 hX2
  have C9 := Lib.hid (subOne_ge_nm X2 qQ pQ rQ nQ q q v8 F_X2.out (MQ.out.still A_b.out) (by have := LB_X2.out; have := BL.out; omega) (by have := KN.out.q3; omega))
  go_wp2_with fail
  refine C9.out.mono ?_
  rintro e v9 ⟨rfl, h, hk⟩
  have F_D1_ := F_D1.out.at2 hk (off_bytes F_X2.out F_D1.out)
  replace F_D1 := Lib.hid F_D1_
  clear F_D1_
  replace A_b := Lib.hid (At2.new A_b.out hk LB_X2.out)
  replace F_X2 := Lib.hid h
  clear h hk C9
  have C10 := Lib.hid (bytes_nm X2 qQ pQ rQ nQ q (q - 1) SQ v9 F_X2.out (MQ.out.still A_b.out) HSQ.out (LTQ.out _ (Nat.sub_le _ _)))
  go_wp2_with fail
  refine C10.out.mono ?_
  rintro e v10 ⟨rfl, h, hk⟩
  obtain ⟨gY2, hgY2⟩ : ∃ gY2, v9.heap.size = gY2 := ⟨_, rfl⟩
  rw [hgY2] at h ⊢
  replace F_D1 := Lib.hid (F_D1.out.still hk)
  replace F_X2 := Lib.hid (F_X2.out.still hk)
  replace A_b := Lib.hid (A_b.out.none hk)
  have F_Y2 := Lib.hid h.bytes
  clear h hk C10 hgY2
  have h := newMod_md (some ⟨gY2, 0, none⟩) SQ (enc SQ (q - 1)) v10 F_Y2.out (BytesAt.below F_Y2.out) (by rw [enc_length]; exact Nat.le_refl _) (by rw [enc_length]; have := SZ.out; omega) (by rw [ENQ.out _ (Nat.sub_le _ _)]; have := KN.out.q3; omega)
  rw [enc_length] at h
  have C11 := Lib.hid h
  clear h
  go_wp2_with fail
  refine C11.out.mono ?_
  rintro e v11 ⟨qYm, nYm, rYm, lYm, rfl, b1, b2, b3, h, hk⟩
  have NE_Ym_X2 : Hid (nYm ≠ X2) := Lib.hid (by have := F_X2.out.lt; omega)
  rw [ENQ.out _ (Nat.sub_le _ _)] at h
  replace F_D1 := Lib.hid (F_D1.out.still hk)
  replace F_X2 := Lib.hid (F_X2.out.still hk)
  replace F_Y2 := Lib.hid (F_Y2.out.still hk)
  replace A_b := Lib.hid (A_b.out.none hk)
  have F_Ym := Lib.hid (h.evenPr EYm.out)
  clear h hk C11 b1 b2 b3
  clear F_X2 F_Y2
  have C12 := Lib.hid (newNat_nm v11)
  go_wp2_with fail
  refine C12.out.mono ?_
  rintro e v12 ⟨rfl, h, hk⟩
  obtain ⟨P2, hP2⟩ : ∃ P2, v11.heap.size + 1 = P2 := ⟨_, rfl⟩
  rw [hP2] at h ⊢
  have LB_P2 : Hid (b.heap.size < P2) := Lib.hid (by have := A_b.out.size; omega)
  have NE_Ym_P2 : Hid (nYm ≠ P2) := Lib.hid (by have := F_Ym.out.ltq; omega)
  replace F_D1 := Lib.hid (F_D1.out.still hk)
  replace F_Ym := Lib.hid (F_Ym.out.still hk)
  replace A_b := Lib.hid (A_b.out.none hk)
  have F_P2 := Lib.hid h
  clear h hk C12 hP2
  have h := mod_nm P2 bd qYm nYm nYm 0 0 nN d lYm (q - 1) v12 F_P2.out (ND.out.still A_b.out) F_Ym.out NE_Ym_P2.out NE_Ym_P2.out (by have := LB_P2.out; have := ND.out.lt; omega)
  rw [KN.out.dqd] at h
  have C13 := Lib.hid h
  clear h
  go_wp2_with fail
  refine C13.out.mono ?_
  rintro e v13 ⟨rfl, h, hk⟩
  have F_D1_ := F_D1.out.at2 hk (off_bytes F_P2.out F_D1.out)
  have F_Ym_ := F_Ym.out.away F_P2.out NE_Ym_P2.out NE_Ym_P2.out hk
  replace F_D1 := Lib.hid F_D1_
  replace F_Ym := Lib.hid F_Ym_
  clear F_D1_ F_Ym_
  replace A_b := Lib.hid (At2.new A_b.out hk LB_P2.out)
  replace F_P2 := Lib.hid h
  clear h hk C13
  have C14 := Lib.hid (bytes_nm P2 qYm nYm nYm lYm (q - 1) dq S2 v13 F_P2.out F_Ym.out HS2.out (LT2.out _ DQL.out))
  go_wp2_with fail
  refine C14.out.mono ?_
  rintro e v14 ⟨rfl, h, hk⟩
  obtain ⟨gD2, hgD2⟩ : ∃ gD2, v13.heap.size = gD2 := ⟨_, rfl⟩
  rw [hgD2] at h ⊢
  replace F_D1 := Lib.hid (F_D1.out.still hk)
  replace F_Ym := Lib.hid (F_Ym.out.still hk)
  replace F_P2 := Lib.hid (F_P2.out.still hk)
  replace A_b := Lib.hid (A_b.out.none hk)
  have F_D2 := Lib.hid h.bytes
  clear h hk C14 hgD2
  clear F_P2 F_Ym
  have C15 := Lib.hid (modNat_nm qP pP rP nP p v14 (MP.out.still A_b.out))
  go_wp2_with fail
  refine C15.out.mono ?_
  rintro e v15 ⟨rfl, h, hk⟩
  obtain ⟨X3, hX3⟩ : ∃ X3, v14.heap.size + 1 = X3 := ⟨_, rfl⟩
  rw [hX3] at h ⊢
  have LB_X3 : Hid (b.heap.size < X3) := Lib.hid (by have := A_b.out.size; omega)
  replace F_D1 := Lib.hid (F_D1.out.still hk)
  replace F_D2 := Lib.hid (F_D2.out.still hk)
  replace A_b := Lib.hid (A_b.out.none hk)
  have F_X3 := Lib.hid h
  clear h hk C15 hX3
  have h := isOdd_nm X3 nP p v15 F_X3.out MP.out.2.1
  rw [KN.out.po] at h
  have C16 := Lib.hid h
  clear h
  go_wp2_with fail
  refine C16.out.mono ?_
  rintro e w' ⟨rfl, rfl⟩
  clear C16
  clear F_X3
  have C17 := Lib.hid (modNat_nm qP pP rP nP p v15 (MP.out.still A_b.out))
  go_wp2_with fail
  refine C17.out.mono ?_
  rintro e v17 ⟨rfl, h, hk⟩
  obtain ⟨X4, hX4⟩ : ∃ X4, v15.heap.size + 1 = X4 := ⟨_, rfl⟩
  rw [hX4] at h ⊢
  have LB_X4 : Hid (b.heap.size < X4) := Lib.hid (by have := A_b.out.size; omega)
  replace F_D1 := Lib.hid (F_D1.out.still hk)
  replace F_D2 := Lib.hid (F_D2.out.still hk)
  replace A_b := Lib.hid (A_b.out.none hk)
  have F_X4 := Lib.hid h
  clear h hk C17 hX4
  have C18 := Lib.hid (subOne_ge_nm X4 qP pP rP nP p p v17 F_X4.out (MP.out.still A_b.out) (by have := LB_X4.out; have := BL.out; omega) (by have := KN.out.p3; omega))
  go_wp2_with fail
  refine C18.out.mono ?_
  rintro e v18 ⟨rfl, h, hk⟩
  have F_D1_ := F_D1.out.at2 hk (off_bytes F_X4.out F_D1.out)
  have F_D2_ := F_D2.out.at2 hk (off_bytes F_X4.out F_D2.out)
  replace F_D1 := Lib.hid F_D1_
  replace F_D2 := Lib.hid F_D2_
  clear F_D1_ F_D2_
  replace A_b := Lib.hid (At2.new A_b.out hk LB_X4.out)
  replace F_X4 := Lib.hid h
  clear h hk C18
  have h := subOne_ge_nm X4 qP pP rP nP p (p - 1) v18 F_X4.out (MP.out.still A_b.out) (by have := LB_X4.out; have := BL.out; omega) (by have := KN.out.p3; omega)
  rw [show p - 1 - 1 = p - 2 by omega] at h
  have C19 := Lib.hid h
  clear h
  go_wp2_with fail
  refine C19.out.mono ?_
  rintro e v19 ⟨rfl, h, hk⟩
  have F_D1_ := F_D1.out.at2 hk (off_bytes F_X4.out F_D1.out)
  have F_D2_ := F_D2.out.at2 hk (off_bytes F_X4.out F_D2.out)
  replace F_D1 := Lib.hid F_D1_
  replace F_D2 := Lib.hid F_D2_
  clear F_D1_ F_D2_
  replace A_b := Lib.hid (At2.new A_b.out hk LB_X4.out)
  replace F_X4 := Lib.hid h
  clear h hk C19
  have C20 := Lib.hid (bytes_nm X4 qP pP rP nP p (p - 2) SP v19 F_X4.out (MP.out.still A_b.out) HSP.out (LTP.out _ (Nat.sub_le _ _)))
  go_wp2_with fail
  refine C20.out.mono ?_
  rintro e v20 ⟨rfl, h, hk⟩
  obtain ⟨gE1, hgE1⟩ : ∃ gE1, v19.heap.size = gE1 := ⟨_, rfl⟩
  rw [hgE1] at h ⊢
  replace F_D1 := Lib.hid (F_D1.out.still hk)
  replace F_D2 := Lib.hid (F_D2.out.still hk)
  replace F_X4 := Lib.hid (F_X4.out.still hk)
  replace A_b := Lib.hid (A_b.out.none hk)
  have F_E1 := Lib.hid h.bytes
  clear h hk C20 hgE1
  clear F_X4
  have C21 := Lib.hid (newNat_nm v20)
  go_wp2_with fail
  refine C21.out.mono ?_
  rintro e v21 ⟨rfl, h, hk⟩
  obtain ⟨QI, hQI⟩ : ∃ QI, v20.heap.size + 1 = QI := ⟨_, rfl⟩
  rw [hQI] at h ⊢
  have LB_QI : Hid (b.heap.size < QI) := Lib.hid (by have := A_b.out.size; omega)
  replace F_D1 := Lib.hid (F_D1.out.still hk)
  replace F_D2 := Lib.hid (F_D2.out.still hk)
  replace F_E1 := Lib.hid (F_E1.out.still hk)
  replace A_b := Lib.hid (A_b.out.none hk)
  have F_QI := Lib.hid h
  clear h hk C21 hQI
  have C22 := Lib.hid (modNat_nm qQ pQ rQ nQ q v21 (MQ.out.still A_b.out))
  go_wp2_with fail
  refine C22.out.mono ?_
  rintro e v22 ⟨rfl, h, hk⟩
  obtain ⟨X5, hX5⟩ : ∃ X5, v21.heap.size + 1 = X5 := ⟨_, rfl⟩
  rw [hX5] at h ⊢
  have LB_X5 : Hid (b.heap.size < X5) := Lib.hid (by have := A_b.out.size; omega)
  have NE_QI_X5 : Hid (QI ≠ X5) := Lib.hid (by have := F_QI.out.lt; omega)
  have NE_X5_QI : Hid (X5 ≠ QI) := Lib.hid NE_QI_X5.out.symm
  replace F_D1 := Lib.hid (F_D1.out.still hk)
  replace F_D2 := Lib.hid (F_D2.out.still hk)
  replace F_E1 := Lib.hid (F_E1.out.still hk)
  replace F_QI := Lib.hid (F_QI.out.still hk)
  replace A_b := Lib.hid (A_b.out.none hk)
  have F_X5 := Lib.hid h
  clear h hk C22 hX5
  have C23 := Lib.hid (mod_nm QI X5 qP pP rP 0 0 nQ q nP p v22 F_QI.out F_X5.out (MP.out.still A_b.out) (by have := LB_QI.out; have := BL.out; omega) (by have := LB_QI.out; have := BL.out; omega) NE_X5_QI.out)
  go_wp2_with fail
  refine C23.out.mono ?_
  rintro e v23 ⟨rfl, h, hk⟩
  have F_D1_ := F_D1.out.at2 hk (off_bytes F_QI.out F_D1.out)
  have F_D2_ := F_D2.out.at2 hk (off_bytes F_QI.out F_D2.out)
  have F_E1_ := F_E1.out.at2 hk (off_bytes F_QI.out F_E1.out)
  have F_X5_ := F_X5.out.away F_QI.out NE_X5_QI.out hk
  replace F_D1 := Lib.hid F_D1_
  replace F_D2 := Lib.hid F_D2_
  replace F_E1 := Lib.hid F_E1_
  replace F_X5 := Lib.hid F_X5_
  clear F_D1_ F_D2_ F_E1_ F_X5_
  replace A_b := Lib.hid (At2.new A_b.out hk LB_QI.out)
  replace F_QI := Lib.hid h
  clear h hk C23
  clear F_X5
  have h := exp_nm QI QI qP pP rP nP (q % p) nP p (q % p) (some ⟨gE1, 0, none⟩) SP (enc SP (p - 2)) v23 F_QI.out F_QI.out (MP.out.still A_b.out) KN.out.po (by have := LB_QI.out; have := BL.out; omega) (by have := LB_QI.out; have := BL.out; omega) (Nat.mod_lt _ (by have := KN.out.p3; omega)) F_E1.out (by rw [enc_length]; have := SZ.out; omega)
  rw [enc_length, ENP.out _ (Nat.sub_le _ _)] at h
  have C24 := Lib.hid h
  clear h
  go_wp2_with fail
  refine C24.out.mono ?_
  rintro e v24 ⟨rfl, h, hk⟩
  have F_D1_ := F_D1.out.at2 hk (off_bytes F_QI.out F_D1.out)
  have F_D2_ := F_D2.out.at2 hk (off_bytes F_QI.out F_D2.out)
  have F_E1_ := F_E1.out.at2 hk (off_bytes F_QI.out F_E1.out)
  replace F_D1 := Lib.hid F_D1_
  replace F_D2 := Lib.hid F_D2_
  replace F_E1 := Lib.hid F_E1_
  clear F_D1_ F_D2_ F_E1_
  replace A_b := Lib.hid (At2.new A_b.out hk LB_QI.out)
  replace F_QI := Lib.hid h
  clear h hk C24
  clear F_E1
  have hbk := Blk.new v24 80 #[.pointer (some ⟨qN, 0, none⟩), .int .i64 (e : Int), .pointer (some ⟨bd, 0, none⟩), .pointer (some ⟨qP, 0, none⟩), .pointer (some ⟨qQ, 0, none⟩), .slice (some ⟨gD1, 0, none⟩) (enc S1 dp).length S1, .slice (some ⟨gD2, 0, none⟩) (enc S2 dq).length S2, .pointer (some ⟨QI, 0, none⟩), .bool false]
  have hck := checkPriv_nm v24 _ v24.heap.size qN pN rN nN qP pP rP nP qQ pQ rQ nQ bd QI ⟨gD1, 0, none⟩ ⟨gD2, 0, none⟩ S1 S2 (enc S1 dp) (enc S2 dq) false m e d p q dp dq (qiOf p q) ((Kept.refl _ v24).alloc _) (Nat.le_refl _) hbk (MN.out.still A_b.out) (MP.out.still A_b.out) (MQ.out.still A_b.out) (ND.out.still A_b.out) F_QI.out F_D1.out F_D2.out (by rw [enc_length]; exact Nat.le_refl _) (by rw [enc_length]; exact Nat.le_refl _) (EN1.out _ DPL.out) (EN2.out _ DQL.out) (by rw [enc_length, HS1.out]; exact Nat.le_refl _) (by rw [enc_length, HS2.out]; exact Nat.le_refl _) KN.out
  rw [enc_length, enc_length] at hck
  have CK := Lib.hid hck
  clear hck hbk
  go_wp2_with fail
  refine CK.out.mono ?_
  rintro x w9 ⟨rfl, k9, hb9⟩
  have FIN : Hid (PrivOut m e d p q dp dq (qiOf p q) b (.returned (.tuple #[.pointer (some ⟨v24.heap.size, 0, none⟩), .nilIface])) w9) := Lib.hid ⟨_, rfl, ⟨qN, pN, rN, nN, qP, pP, rP, nP, qQ, pQ, rQ, nQ, bd, QI, gD1, gD2, S1, S2, by rw [HS1.out, HS2.out]; exact hb9, (MN.out.still A_b.out).still k9, (MP.out.still A_b.out).still k9, (MQ.out.still A_b.out).still k9, (ND.out.still A_b.out).still k9, F_QI.out.still k9, by rw [HS1.out]; exact F_D1.out.still k9, by rw [HS2.out]; exact F_D2.out.still k9⟩, A_b.out.none k9⟩
  clear k9 hb9 CK
  go_wp2_with fail
  go_ret2
  exact FIN.out

end Go.Proofs.YtdmpiecdpdknaaaGreatDoor
