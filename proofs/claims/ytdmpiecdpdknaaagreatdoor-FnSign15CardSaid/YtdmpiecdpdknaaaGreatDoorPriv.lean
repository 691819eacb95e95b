/-
  rsa.checkPrivateKey (printed by gen_priv.py).
-/
import Derived.Test.YtdmpiecdpdknaaaGreatDoorPubl
import Derived.Test.YtdmpiecdpdknaaaGreatDoorExp
import Derived.Test.YtdmpiecdpdknaaaGreatDoorSetOv
import Derived.Test.YtdmpiecdpdknaaaGreatDoorSubM
import Derived.Test.YtdmpiecdpdknaaaGreatDoorPrivN
import Derived.Lib.LazyBuf
namespace Go.Proofs.YtdmpiecdpdknaaaGreatDoor
open Go.RowKit

theorem Md.evenPr {w : World} {q pn pr n m : Nat} (h : Md w q pn pr n m) (he : m % 2 = 0) : Md w q pn pn n m := by
  obtain ⟨a, b, c, d, mi, rv, e, f, g⟩ := h
  exact ⟨a, b, c, d, mi, rv, e, f, fun ho => by omega⟩
theorem Md.n_le {w : World} {q pn pr n m k : Nat} (h : Md w q pn pr n m) (hb : bitLen m ≤ 64 * k) : n ≤ k := by
  apply Classical.byContradiction
  intro hc
  have h1 := h.2.2.1
  have h2 := (bitLen_le m (64 * k)).1 hb
  rw [show Pw (n - 1) = 2 ^ (64 * (n - 1)) by unfold Pw; rw [Nat.pow_mul]] at h1
  have h3 := Nat.pow_le_pow_right (n := 2) (by decide) (show 64 * k ≤ 64 * (n - 1) by omega)
  omega
theorem eql_nil (w : World) (a : Addr) (n c : Nat) : (binOp .eql 22 (.slice (some a) n c) (.slice none 0 0)).run Tryz.prog w = .ok (.bool false) w := by
  exact run_eql_slice_nil w 22 5 (some a) n c Tryz.underlying22
theorem mod_nm (p px q pn pr n0 v0 nx vx n m : Nat) (w : World) (hp : Nm w p n0 v0) (hx : Nm w px nx vx) (hm : Md w q pn pr n m) (hpn : pn ≠ p) (hpr : pr ≠ p) (hne : px ≠ p) :
    Calls Tryz.prog 59 #[.pointer (some ⟨p, 0, none⟩), .pointer (some ⟨px, 0, none⟩), .pointer (some ⟨q, 0, none⟩)] w (NmOut p n (vx % m) w) := by
  have hp1 := hp.lt
  obtain ⟨xs, rest, x1, x2, x3, x4, x5⟩ := hx.open_
  have h := mod_any p q pn pr n0 v0 n m px (px - 1) xs rest w hp hm hpn hpr x1 hne (by omega) (by omega)
  rw [x5] at h
  exact h
theorem setOver_yes (p q pn pr n0 v0 n m : Nat) (A : Option Addr) (cap : Nat) (bs : List UInt8) (w : World) (hx : Nm w p n0 v0) (hm : Md w q pn pr n m) (hpn : pn ≠ p) (hpr : pr ≠ p) (hb : BytesAt w A bs) (ho : OffNm A bs p) (hc : bs.length ≤ cap) (hL : bs.length ≤ 4294967296) (h1 : num bs < m) (h2 : bs.length ≤ 8 * n) :
    Calls Tryz.prog 90 #[.pointer (some ⟨p, 0, none⟩), .slice A bs.length cap, .pointer (some ⟨q, 0, none⟩)] w fun e w' => e = .returned (.tuple #[.pointer (some ⟨p, 0, none⟩), .nilIface]) ∧ Nm w' p n (num bs) ∧ Kept (At2 p) w w' := by
  refine (setOver_nm p q pn pr n0 v0 n m A cap bs w hx hm hpn hpr hb ho hc hL (.inl ⟨h1, h2⟩)).mono ?_
  rintro e w' (⟨_, a, b, c⟩ | ⟨h, _⟩)
  · exact ⟨a, b, c⟩
  · omega
theorem setOver_no (p q pn pr n0 v0 n m : Nat) (A : Option Addr) (cap : Nat) (bs : List UInt8) (w : World) (hx : Nm w p n0 v0) (hm : Md w q pn pr n m) (hpn : pn ≠ p) (hpr : pr ≠ p) (hb : BytesAt w A bs) (ho : OffNm A bs p) (hc : bs.length ≤ cap) (hL : bs.length ≤ 4294967296) (h1 : 2 ^ bitLen m ≤ num bs) :
    Calls Tryz.prog 90 #[.pointer (some ⟨p, 0, none⟩), .slice A bs.length cap, .pointer (some ⟨q, 0, none⟩)] w fun e w' => ∃ a, e = .returned (.tuple #[.pointer none, .iface 115 (.pointer (some a))]) ∧ Kept (At2 p) w w' := by
  refine (setOver_nm p q pn pr n0 v0 n m A cap bs w hx hm hpn hpr hb ho hc hL (.inr h1)).mono ?_
  have := (bitLen_le m _).1 (Nat.le_refl (bitLen m))
  rintro e w' (⟨h, _⟩ | ⟨_, a, b, c⟩)
  · omega
  · exact ⟨a, b, c⟩
theorem lt_PbS {v m : Nat} (h : v ≤ m) : v < Pb ((bitLen m + 7) / 8) := by
  rw [Pb_two]
  have a := (bitLen_le m (8 * ((bitLen m + 7) / 8))).1 (by omega)
  omega
theorem encNum {v m : Nat} (h : v ≤ m) : num (enc ((bitLen m + 7) / 8) v) = v := num_enc_of_lt (lt_PbS h)

set_option maxHeartbeats 4000000 in
set_option maxRecDepth 100000 in
theorem checkPriv_nm (w0 w : World) (pk qN pN rN nN qP pP rP nP qQ pQ rQ nQ bd bi : Nat) (aP aQ : Addr) (cP cQ : Nat) (bP bQ : List UInt8) (f0 : Bool) (m e d p q dp dq qi : Nat)
    (kw : Kept NoBlk w0 w) (hpk : w0.heap.size ≤ pk) (hB : Blk w pk 80 #[.pointer (some ⟨qN, 0, none⟩), .int .i64 (e : Int), .pointer (some ⟨bd, 0, none⟩), .pointer (some ⟨qP, 0, none⟩), .pointer (some ⟨qQ, 0, none⟩), .slice (some aP) bP.length cP, .slice (some aQ) bQ.length cQ, .pointer (some ⟨bi, 0, none⟩), .bool f0])
    (hN : Md w0 qN pN rN nN m) (hP : Md w0 qP pP rP nP p) (hQ : Md w0 qQ pQ rQ nQ q) (hD : Nm w0 bd nN d) (hI : Nm w0 bi nP qi) (hbP : BytesAt w0 (some aP) bP) (hbQ : BytesAt w0 (some aQ) bQ)
    (hcP : bP.length ≤ cP) (hcQ : bQ.length ≤ cQ) (nbP : num bP = dp) (nbQ : num bQ = dq) (lbP : bP.length ≤ (bitLen (p - 1) + 7) / 8) (lbQ : bQ.length ≤ (bitLen (q - 1) + 7) / 8) (K : KeyN m e d p q dp dq qi) :
    Calls Tryz.prog 62 #[.pointer (some ⟨pk, 0, none⟩)] w fun x w' =>
      x = .returned .nilIface ∧ Kept NoBlk w0 w' ∧ Blk w' pk 80 #[.pointer (some ⟨qN, 0, none⟩), .int .i64 (e : Int), .pointer (some ⟨bd, 0, none⟩), .pointer (some ⟨qP, 0, none⟩), .pointer (some ⟨qQ, 0, none⟩), .slice (some aP) bP.length cP, .slice (some aQ) bQ.length cQ, .pointer (some ⟨bi, 0, none⟩), .bool false] := by
  have hc0 : w.cell? ⟨pk, 0, none⟩ = some (.pointer (some ⟨qN, 0, none⟩)) := hB.cellIs rfl
  have hc1 : w.cell? ⟨pk, 1, none⟩ = some (.int .i64 (e : Int)) := hB.cellIs rfl
  have hc8 : w.cell? ⟨pk, 8, none⟩ = some (.bool f0) := hB.cellIs rfl
  have hf8 := hB.frozen 8
  have hk1 : Kept NoBlk w0 (w.setCell ⟨pk, 8, none⟩ (.bool true)) := kw.setNew hpk _ _
  have hB1 := hB.set_ 8 (.bool true)
  have hcp := checkPub_nm pk qN pN rN nN m e (w.setCell ⟨pk, 8, none⟩ (.bool true)) ⟨hB1.lt, hB1.cellIs rfl, hB1.cellIs rfl, hN.still hk1⟩ K.mo K.e2 K.eo K.em K.mb
  have CP := Lib.hid hcp
  have KN := Lib.hid K
  have HK1 := Lib.hid hk1
  have HB1 := Lib.hid hB1
  have HN := Lib.hid hN
  have HP := Lib.hid hP
  have HQ := Lib.hid hQ
  have HD := Lib.hid hD
  have HI := Lib.hid hI
  have HBP := Lib.hid hbP
  have HBQ := Lib.hid hbQ
  have HPK := Lib.hid hpk
  have NBP := Lib.hid nbP
  have NBQ := Lib.hid nbQ
  have LBP := Lib.hid lbP
  have LBQ := Lib.hid lbQ
  clear hB kw hk1 hB1 hcp K hN hP hQ hD hI hbP hbQ nbP nbQ lbP lbQ hpk
  go_enter Tryz.func62, Tryz.ntmps62
  go_wp2_with fail
  refine CP.out.mono ?_
  rintro x w1 ⟨rfl, k1⟩
  have hB2 := HB1.out.kept k1 (fun e => e)
  have c1 : w1.cell? ⟨pk, 0, none⟩ = some (.pointer (some ⟨qN, 0, none⟩)) := hB2.cellIs rfl
  have c3 : w1.cell? ⟨pk, 3, none⟩ = some (.pointer (some ⟨qP, 0, none⟩)) := hB2.cellIs rfl
  have c4 : w1.cell? ⟨pk, 4, none⟩ = some (.pointer (some ⟨qQ, 0, none⟩)) := hB2.cellIs rfl
  have c5 : w1.cell? ⟨pk, 5, none⟩ = some (.slice (some aP) bP.length cP) := hB2.cellIs rfl
  have c8 : w1.cell? ⟨pk, 8, none⟩ = some (.bool true) := hB2.cellIs rfl
  have f8 := hB2.frozen 8
  have hkb : Kept NoBlk w0 ((w1.setCell ⟨pk, 8, none⟩ (.bool false)).setCell ⟨pk, 8, none⟩ (.bool false)) := ((HK1.out.none k1).setNew HPK.out _ _).setNew HPK.out _ _
  have hkb1 : Kept NoBlk w0 (w1.setCell ⟨pk, 8, none⟩ (.bool false)) := (HK1.out.none k1).setNew HPK.out _ _
  have hB3 := hB2.set_ 8 (.bool false)
  have d8 : (w1.setCell ⟨pk, 8, none⟩ (.bool false)).cell? ⟨pk, 8, none⟩ = some (.bool false) := hB3.cellIs rfl
  have g8 := hB3.frozen 8
  have hBb := hB3.set_ 8 (.bool false)
  obtain ⟨bp, hbp⟩ : ∃ bp, bitLen p = bp := ⟨_, rfl⟩
  obtain ⟨bq, hbq⟩ : ∃ bq, bitLen q = bq := ⟨_, rfl⟩
  have BLP := Lib.hid (bitLen_md qP pP rP nP p _ (HP.out.still hkb1))
  have BLQ := Lib.hid (bitLen_md qQ pQ rQ nQ q _ (HQ.out.still hkb1))
  rw [hbp] at BLP
  rw [hbq] at BLQ
  have hne : ((bp : Int) != (bq : Int)) = true := by rw [bne_iff_ne]; have := KN.out.bne; omega
  have HBb := Lib.hid hBb
  have HKb := Lib.hid hkb
  have hnil := eql_nil (w1.setCell ⟨pk, 8, none⟩ (.bool false)) aP bP.length cP
  clear k1 hB2 hB3 hBb hkb hkb1 hbp hbq CP HB1 HK1
  go_wp2_with fail
  refine BLP.out.mono ?_
  rintro x w' ⟨rfl, rfl⟩
  go_wp2_with fail
  refine BLQ.out.mono ?_
  rintro x w' ⟨rfl, rfl⟩
  obtain ⟨b, hb⟩ : ∃ b, (w1.setCell ⟨pk, 8, none⟩ (.bool false)).setCell ⟨pk, 8, none⟩ (.bool false) = b := ⟨_, rfl⟩
  rw [hb] at HBb HKb
  have PB : Hid (Blk b pk 80 #[.pointer (some ⟨qN, 0, none⟩), .int .i64 (e : Int), .pointer (some ⟨bd, 0, none⟩), .pointer (some ⟨qP, 0, none⟩), .pointer (some ⟨qQ, 0, none⟩), .slice (some aP) bP.length cP, .slice (some aQ) bQ.length cQ, .pointer (some ⟨bi, 0, none⟩), .bool false]) := HBb
  have MN := Lib.hid (HN.out.still HKb.out)
  have MP := Lib.hid (HP.out.still HKb.out)
  have MQ := Lib.hid (HQ.out.still HKb.out)
  have ND := Lib.hid (HD.out.still HKb.out)
  have NI := Lib.hid (HI.out.still HKb.out)
  have BP := Lib.hid (HBP.out.still HKb.out)
  have BQ := Lib.hid (HBQ.out.still HKb.out)
  have BL : Hid ((pN < b.heap.size ∧ rN < b.heap.size) ∧ (pP < b.heap.size ∧ rP < b.heap.size) ∧ (pQ < b.heap.size ∧ rQ < b.heap.size) ∧ pk < b.heap.size) := Lib.hid (by
    have h1 := MN.out.ltq
    have h2 := MP.out.ltq
    have h3 := MQ.out.ltq
    have h4 := MN.out.ltr KN.out.mo
    have h5 := MP.out.ltr KN.out.po
    have h6 := MQ.out.ltr KN.out.qo
    have h7 := PB.out.lt
    omega)
  have A_b : Hid (Kept NoBlk b b) := Lib.hid (Kept.refl _ _)
  obtain ⟨SP, hSP⟩ : ∃ SP, (bitLen p + 7) / 8 = SP := ⟨_, rfl⟩
  obtain ⟨SQ, hSQ⟩ : ∃ SQ, (bitLen q + 7) / 8 = SQ := ⟨_, rfl⟩
  have HSP := Lib.hid hSP
  have HSQ := Lib.hid hSQ
  have ENP : Hid (∀ v, v ≤ p → num (enc SP v) = v) := Lib.hid (fun v h => by rw [← hSP]; exact encNum h)
  have ENQ : Hid (∀ v, v ≤ q → num (enc SQ v) = v) := Lib.hid (fun v h => by rw [← hSQ]; exact encNum h)
  have LTP : Hid (∀ v, v ≤ p → v < Pb SP) := Lib.hid (fun v h => by rw [← hSP]; exact lt_PbS h)
  have LTQ : Hid (∀ v, v ≤ q → v < Pb SQ) := Lib.hid (fun v h => by rw [← hSQ]; exact lt_PbS h)
  have SZ : Hid (SP ≤ 75 ∧ SQ ≤ 75 ∧ SP ≤ 8 * nN ∧ SQ ≤ 8 * nN ∧ nP ≤ 10 ∧ nQ ≤ 10) := Lib.hid (by
    have h1 := KN.out.pb
    have h2 := KN.out.qb
    have h3 := KN.out.lp
    have h4 := KN.out.lq
    have h5 := MN.out.bytes_le
    have h6 := MP.out.n_le (k := 10) (by omega)
    have h7 := MQ.out.n_le (k := 10) (by omega)
    omega)
  have EXm : Hid ((p - 1) % 2 = 0) := Lib.hid (by have := KN.out.po; have := KN.out.p3; omega)
  have EYm : Hid ((q - 1) % 2 = 0) := Lib.hid (by have := KN.out.qo; have := KN.out.q3; omega)
  clear BLP BLQ hSP hSQ c1 c3 c4 c5 c8 f8 hc0 hc1 hc8 hf8 HN HP HQ HD HI HBP HBQ HBb
  have C1 := Lib.hid (newNat_nm b)
  go_wp2_with fail
  refine C1.out.mono ?_
  rintro e v1 ⟨rfl, h, hk⟩
  obtain ⟨P1, hP1⟩ : ∃ P1, b.heap.size + 1 = P1 := ⟨_, rfl⟩
  rw [hP1] at h ⊢
  have LB_P1 : Hid (b.heap.size < P1) := Lib.hid (by have := A_b.out.size; omega)
  replace A_b := Lib.hid (A_b.out.none hk)
  have F_P1 := Lib.hid h
  clear h hk C1 hP1
  clear hne d8 g8
  have C2 := Lib.hid (expandFor_nm P1 qN pN rN 0 0 nN m v1 F_P1.out (MN.out.still A_b.out) (Nat.zero_le _))
  go_wp2_with fail
  refine C2.out.mono ?_
  rintro e v2 ⟨rfl, h, hk⟩
  replace A_b := Lib.hid (At2.new A_b.out hk LB_P1.out)
  replace F_P1 := Lib.hid h
  clear h hk C2
  have C3 := Lib.hid (modNat_nm qP pP rP nP p v2 (MP.out.still A_b.out))
  go_wp2_with fail
  refine C3.out.mono ?_
  rintro e v3 ⟨rfl, h, hk⟩
  obtain ⟨X1, hX1⟩ : ∃ X1, v2.heap.size + 1 = X1 := ⟨_, rfl⟩
  rw [hX1] at h ⊢
  have LB_X1 : Hid (b.heap.size < X1) := Lib.hid (by have := A_b.out.size; omega)
  have NE_P1_X1 : Hid (P1 ≠ X1) := Lib.hid (by have := F_P1.out.lt; omega)
  have NE_X1_P1 : Hid (X1 ≠ P1) := Lib.hid NE_P1_X1.out.symm
  replace F_P1 := Lib.hid (F_P1.out.still hk)
  replace A_b := Lib.hid (A_b.out.none hk)
  have F_X1 := Lib.hid h
  clear h hk C3 hX1
  have C4 := Lib.hid (bytes_nm X1 qP pP rP nP p p SP v3 F_X1.out (MP.out.still A_b.out) HSP.out (LTP.out _ (Nat.le_refl _)))
  go_wp2_with fail
  refine C4.out.mono ?_
  rintro e v4 ⟨rfl, h, hk⟩
  obtain ⟨gY1, hgY1⟩ : ∃ gY1, v3.heap.size = gY1 := ⟨_, rfl⟩
  rw [hgY1] at h ⊢
  replace F_P1 := Lib.hid (F_P1.out.still hk)
  replace F_X1 := Lib.hid (F_X1.out.still hk)
  replace A_b := Lib.hid (A_b.out.none hk)
  have F_Y1 := Lib.hid h.bytes
  clear h hk C4 hgY1
  have h := setBytes_yes P1 qN pN rN _ _ nN m (some ⟨gY1, 0, none⟩) SP (enc SP p) v4 F_P1.out (MN.out.still A_b.out) (by have := LB_P1.out; have := BL.out; omega) (by have := LB_P1.out; have := BL.out; omega) F_Y1.out (off_bytes F_P1.out F_Y1.out) (by rw [enc_length]; exact Nat.le_refl _) (by rw [enc_length]; have := SZ.out; omega) (by rw [ENP.out _ (Nat.le_refl _)]; exact KN.out.pm) (by rw [enc_length]; exact SZ.out.2.2.1)
  rw [enc_length, ENP.out _ (Nat.le_refl _)] at h
  have C5 := Lib.hid h
  clear h
  go_wp2_with fail
  refine C5.out.mono ?_
  rintro e v5 ⟨rfl, h, hk⟩
  have F_X1_ := F_X1.out.away F_P1.out NE_X1_P1.out hk
  have F_Y1_ := F_Y1.out.at2 hk (off_bytes F_P1.out F_Y1.out)
  replace F_X1 := Lib.hid F_X1_
  replace F_Y1 := Lib.hid F_Y1_
  clear F_X1_ F_Y1_
  replace A_b := Lib.hid (At2.new A_b.out hk LB_P1.out)
  replace F_P1 := Lib.hid h
  clear h hk C5
  clear F_X1 F_Y1
  have C6 := Lib.hid (newNat_nm v5)
  go_wp2_with fail
  refine C6.out.mono ?_
  rintro e v6 ⟨rfl, h, hk⟩
  obtain ⟨P2, hP2⟩ : ∃ P2, v5.heap.size + 1 = P2 := ⟨_, rfl⟩
  rw [hP2] at h ⊢
  have LB_P2 : Hid (b.heap.size < P2) := Lib.hid (by have := A_b.out.size; omega)
  have NE_P1_P2 : Hid (P1 ≠ P2) := Lib.hid (by have := F_P1.out.lt; omega)
  have NE_P2_P1 : Hid (P2 ≠ P1) := Lib.hid NE_P1_P2.out.symm
  replace F_P1 := Lib.hid (F_P1.out.still hk)
  replace A_b := Lib.hid (A_b.out.none hk)
  have F_P2 := Lib.hid h
  clear h hk C6 hP2
  have C7 := Lib.hid (expandFor_nm P2 qN pN rN 0 0 nN m v6 F_P2.out (MN.out.still A_b.out) (Nat.zero_le _))
  go_wp2_with fail
  refine C7.out.mono ?_
  rintro e v7 ⟨rfl, h, hk⟩
  have F_P1_ := F_P1.out.away F_P2.out NE_P1_P2.out hk
  replace F_P1 := Lib.hid F_P1_
  clear F_P1_
  replace A_b := Lib.hid (At2.new A_b.out hk LB_P2.out)
  replace F_P2 := Lib.hid h
  clear h hk C7
  have C8 := Lib.hid (modNat_nm qQ pQ rQ nQ q v7 (MQ.out.still A_b.out))
  go_wp2_with fail
  refine C8.out.mono ?_
  rintro e v8 ⟨rfl, h, hk⟩
  obtain ⟨X2, hX2⟩ : ∃ X2, v7.heap.size + 1 = X2 := ⟨_, rfl⟩
  rw [hX2] at h ⊢
  have LB_X2 : Hid (b.heap.size < X2) := Lib.hid (by have := A_b.out.size; omega)
  have NE_P1_X2 : Hid (P1 ≠ X2) := Lib.hid (by have := F_P1.out.lt; omega)
  have NE_X2_P1 : Hid (X2 ≠ P1) := Lib.hid NE_P1_X2.out.symm
  have NE_P2_X2 : Hid (P2 ≠ X2) := Lib.hid (by have := F_P2.out.lt; omega)
  have NE_X2_P2 : Hid (X2 ≠ P2) := Lib.hid NE_P2_X2.out.symm
  replace F_P1 := Lib.hid (F_P1.out.still hk)
  replace F_P2 := Lib.hid (F_P2.out.still hk)
  replace A_b := Lib.hid (A_b.out.none hk)
  have F_X2 := Lib.hid h
  clear h hk C8 hX2
  have C9 := Lib.hid (bytes_nm X2 qQ pQ rQ nQ q q SQ v8 F_X2.out (MQ.out.still A_b.out) HSQ.out (LTQ.out _ (Nat.le_refl _)))
  go_wp2_with fail
  refine C9.out.mono ?_
  rintro e v9 ⟨rfl, h, hk⟩
  obtain ⟨gY2, hgY2⟩ : ∃ gY2, v8.heap.size = gY2 := ⟨_, rfl⟩
  rw [hgY2] at h ⊢
  replace F_P1 := Lib.hid (F_P1.out.still hk)
  replace F_P2 := Lib.hid (F_P2.out.still hk)
  replace F_X2 := Lib.hid (F_X2.out.still hk)
  replace A_b := Lib.hid (A_b.out.none hk)
  have F_Y2 := Lib.hid h.bytes
  clear h hk C9 hgY2
  have h := setBytes_yes P2 qN pN rN _ _ nN m (some ⟨gY2, 0, none⟩) SQ (enc SQ q) v9 F_P2.out (MN.out.still A_b.out) (by have := LB_P2.out; have := BL.out; omega) (by have := LB_P2.out; have := BL.out; omega) F_Y2.out (off_bytes F_P2.out F_Y2.out) (by rw [enc_length]; exact Nat.le_refl _) (by rw [enc_length]; have := SZ.out; omega) (by rw [ENQ.out _ (Nat.le_refl _)]; exact KN.out.qm) (by rw [enc_length]; exact SZ.out.2.2.2.1)
  rw [enc_length, ENQ.out _ (Nat.le_refl _)] at h
  have C10 := Lib.hid h
  clear h
  go_wp2_with fail
  refine C10.out.mono ?_
  rintro e v10 ⟨rfl, h, hk⟩
  have F_P1_ := F_P1.out.away F_P2.out NE_P1_P2.out hk
  have F_X2_ := F_X2.out.away F_P2.out NE_X2_P2.out hk
  have F_Y2_ := F_Y2.out.at2 hk (off_bytes F_P2.out F_Y2.out)
  replace F_P1 := Lib.hid F_P1_
  replace F_X2 := Lib.hid F_X2_
  replace F_Y2 := Lib.hid F_Y2_
  clear F_P1_ F_X2_ F_Y2_
  replace A_b := Lib.hid (At2.new A_b.out hk LB_P2.out)
  replace F_P2 := Lib.hid h
  clear h hk C10
  clear F_X2 F_Y2
  have h := mulOdd_nm P1 P2 qN pN rN nN m p q v10 F_P1.out F_P2.out (MN.out.still A_b.out) KN.out.mo (by have := LB_P1.out; have := BL.out; omega) KN.out.pm
  rw [KN.out.mpq, Nat.mod_self] at h
  have C11 := Lib.hid h
  clear h
  go_wp2_with fail
  refine C11.out.mono ?_
  rintro e v11 ⟨rfl, h, hk⟩
  have F_P2_ := F_P2.out.away F_P1.out NE_P2_P1.out hk
  replace F_P2 := Lib.hid F_P2_
  clear F_P2_
  replace A_b := Lib.hid (At2.new A_b.out hk LB_P1.out)
  replace F_P1 := Lib.hid h
  clear h hk C11
  have h := isZero_nm P1 nN 0 v11 F_P1.out
  rw [show ((bitN (decide (0 = 0)) : Nat) : Int) = 1 from rfl] at h
  have C12 := Lib.hid h
  clear h
  go_wp2_with fail
  refine C12.out.mono ?_
  rintro e w' ⟨rfl, rfl⟩
  clear C12
  clear F_P1 F_P2
  have C13 := Lib.hid (modNat_nm qP pP rP nP p v11 (MP.out.still A_b.out))
  go_wp2_with fail
  refine C13.out.mono ?_
  rintro e v13 ⟨rfl, h, hk⟩
  obtain ⟨X3, hX3⟩ : ∃ X3, v11.heap.size + 1 = X3 := ⟨_, rfl⟩
  rw [hX3] at h ⊢
  have LB_X3 : Hid (b.heap.size < X3) := Lib.hid (by have := A_b.out.size; omega)
  replace A_b := Lib.hid (A_b.out.none hk)
  have F_X3 := Lib.hid h
  clear h hk C13 hX3
  have C14 := Lib.hid (subOne_ge_nm X3 qP pP rP nP p p v13 F_X3.out (MP.out.still A_b.out) (by have := LB_X3.out; have := BL.out; omega) (by have := KN.out.p3; omega))
  go_wp2_with fail
  refine C14.out.mono ?_
  rintro e v14 ⟨rfl, h, hk⟩
  replace A_b := Lib.hid (At2.new A_b.out hk LB_X3.out)
  replace F_X3 := Lib.hid h
  clear h hk C14
  have C15 := Lib.hid (bytes_nm X3 qP pP rP nP p (p - 1) SP v14 F_X3.out (MP.out.still A_b.out) HSP.out (LTP.out _ (Nat.sub_le _ _)))
  go_wp2_with fail
  refine C15.out.mono ?_
  rintro e v15 ⟨rfl, h, hk⟩
  obtain ⟨gY3, hgY3⟩ : ∃ gY3, v14.heap.size = gY3 := ⟨_, rfl⟩
  rw [hgY3] at h ⊢
  replace F_X3 := Lib.hid (F_X3.out.still hk)
  replace A_b := Lib.hid (A_b.out.none hk)
  have F_Y3 := Lib.hid h.bytes
  clear h hk C15 hgY3
  have h := newMod_md (some ⟨gY3, 0, none⟩) SP (enc SP (p - 1)) v15 F_Y3.out (BytesAt.below F_Y3.out) (by rw [enc_length]; exact Nat.le_refl _) (by rw [enc_length]; have := SZ.out; omega) (by rw [ENP.out _ (Nat.sub_le _ _)]; have := KN.out.p3; omega)
  rw [enc_length] at h
  have C16 := Lib.hid h
  clear h
  go_wp2_with fail
  refine C16.out.mono ?_
  rintro e v16 ⟨qXm, nXm, rXm, lXm, rfl, b1, b2, b3, h, hk⟩
  have NE_Xm_X3 : Hid (nXm ≠ X3) := Lib.hid (by have := F_X3.out.lt; omega)
  rw [ENP.out _ (Nat.sub_le _ _)] at h
  replace F_X3 := Lib.hid (F_X3.out.still hk)
  replace F_Y3 := Lib.hid (F_Y3.out.still hk)
  replace A_b := Lib.hid (A_b.out.none hk)
  have F_Xm := Lib.hid (h.evenPr EXm.out)
  clear h hk C16 b1 b2 b3
  clear F_X3 F_Y3
  have LEXm : Hid (1 ≤ lXm ∧ lXm < 16) := Lib.hid (by have h1 := F_Xm.out.2.1; have h2 := F_Xm.out.n_le (k := 10) (by have := bitLen_mono (Nat.sub_le p 1); have := KN.out.pb; have := KN.out.qb; omega); omega)
  have c5 : v16.cell? ⟨pk, 5, none⟩ = some (.slice (some aP) bP.length cP) := (PB.out.kept A_b.out (fun e => e)).cellIs rfl
  have hkb5 : pk < v16.heap.size := Nat.lt_of_lt_of_le BL.out.2.2.2 A_b.out.size
  go_wp2_with fail
  go_region_held3 (fun w' => w'.cell? ⟨pk, 5, none⟩ = some (.slice (some aP) bP.length cP)) (go_keep) (first | (go_at_call 41; refine (newNat_nm _).mono ?_; rintro e v17 ⟨rfl, h', hk'⟩; have hk : Kept NoBlk v16 v17 := ((Kept.refl NoBlk v16).drew).trans hk'; have h : Nm v17 (v16.heap.size + 1) 0 0 := h'; clear h' hk'; have cA5 : v17.cell? ⟨pk, 5, none⟩ = some (.slice (some aP) bP.length cP) := (hk.cell (p := ⟨pk, 5, none⟩) hkb5 (fun e => e)).trans c5; obtain ⟨P3, hP3⟩ : ∃ P3, v16.heap.size + 1 = P3 := ⟨_, rfl⟩; rw [show v16.drew.heap.size = v16.heap.size from rfl, hP3]; rw [hP3] at h; have LB_P3 : Hid (b.heap.size < P3) := Lib.hid (by have := A_b.out.size; omega); have NE_Xm_P3 : Hid (nXm ≠ P3) := Lib.hid (by have := F_Xm.out.ltq; omega); replace F_Xm := Lib.hid (F_Xm.out.still hk); replace A_b := Lib.hid (A_b.out.none hk); have F_P3 := Lib.hid h; clear h hk hP3) | (go_at_call 42; have h := setBytes_yes P3 qXm nXm nXm 0 0 lXm (p - 1) (some aP) cP bP _ F_P3.out F_Xm.out NE_Xm_P3.out NE_Xm_P3.out (BP.out.still A_b.out) (off_bytes F_P3.out (BP.out.still A_b.out)) hcP (by have := LBP.out; have := F_Xm.out.bytes_le; have := LEXm.out; omega) (by rw [NBP.out, ← KN.out.dpd]; exact Nat.mod_lt _ (by have := KN.out.p3; omega)) (Nat.le_trans LBP.out F_Xm.out.bytes_le); rw [NBP.out] at h; have CC := Lib.hid h; clear h; refine CC.out.mono ?_; rintro e v18 ⟨rfl, h, hk⟩; have cB5 : v18.cell? ⟨pk, 5, none⟩ = some (.slice (some aP) bP.length cP) := (hk.cell (p := ⟨pk, 5, none⟩) (Nat.lt_of_lt_of_le BL.out.2.2.2 A_b.out.size) (show ¬ At2 P3 pk from fun e => by unfold At2 at e; have := LB_P3.out; have := BL.out; omega)).trans cA5; have F_Xm_ := F_Xm.out.away F_P3.out NE_Xm_P3.out NE_Xm_P3.out hk; replace F_Xm := Lib.hid F_Xm_; clear F_Xm_; replace A_b := Lib.hid (At2.new A_b.out hk LB_P3.out); replace F_P3 := Lib.hid h; clear h hk CC))
  clear c5 cA5 cB5 hkb5
  have C19 := Lib.hid (newNat_nm v18)
  go_wp2_with fail
  refine C19.out.mono ?_
  rintro e v19 ⟨rfl, h, hk⟩
  obtain ⟨P4, hP4⟩ : ∃ P4, v18.heap.size + 1 = P4 := ⟨_, rfl⟩
  rw [hP4] at h ⊢
  have LB_P4 : Hid (b.heap.size < P4) := Lib.hid (by have := A_b.out.size; omega)
  have NE_Xm_P4 : Hid (nXm ≠ P4) := Lib.hid (by have := F_Xm.out.ltq; omega)
  have NE_P3_P4 : Hid (P3 ≠ P4) := Lib.hid (by have := F_P3.out.lt; omega)
  have NE_P4_P3 : Hid (P4 ≠ P3) := Lib.hid NE_P3_P4.out.symm
  replace F_Xm := Lib.hid (F_Xm.out.still hk)
  replace F_P3 := Lib.hid (F_P3.out.still hk)
  replace A_b := Lib.hid (A_b.out.none hk)
  have F_P4 := Lib.hid h
  clear h hk C19 hP4
  have c1 : v19.cell? ⟨pk, 1, none⟩ = some (.int .i64 (e : Int)) := (PB.out.kept A_b.out (fun e => e)).cellIs rfl
  have hee : (e : Int) ≤ 2147483647 := by have := KN.out.em; omega
  have heu : IntKind.u64.wrap (e : Int) = (e : Int) := by rw [IntKind.wrap_u64]; omega
  have C20 := Lib.hid (setUint_nm P4 0 0 e v19 F_P4.out (by have := KN.out.em; omega))
  go_wp2_with fail
  refine C20.out.mono ?_
  rintro e v20 ⟨rfl, h, hk⟩
  have F_Xm_ := F_Xm.out.away F_P4.out NE_Xm_P4.out NE_Xm_P4.out hk
  have F_P3_ := F_P3.out.away F_P4.out NE_P3_P4.out hk
  replace F_Xm := Lib.hid F_Xm_
  replace F_P3 := Lib.hid F_P3_
  clear F_Xm_ F_P3_
  replace A_b := Lib.hid (At2.new A_b.out hk LB_P4.out)
  replace F_P4 := Lib.hid h
  clear h hk C20
  clear c1 hee heu
  have C21 := Lib.hid (expandFor_nm P4 qXm nXm nXm 1 e lXm (p - 1) v20 F_P4.out F_Xm.out LEXm.out.1)
  go_wp2_with fail
  refine C21.out.mono ?_
  rintro e v21 ⟨rfl, h, hk⟩
  have F_Xm_ := F_Xm.out.away F_P4.out NE_Xm_P4.out NE_Xm_P4.out hk
  have F_P3_ := F_P3.out.away F_P4.out NE_P3_P4.out hk
  replace F_Xm := Lib.hid F_Xm_
  replace F_P3 := Lib.hid F_P3_
  clear F_Xm_ F_P3_
  replace A_b := Lib.hid (At2.new A_b.out hk LB_P4.out)
  replace F_P4 := Lib.hid h
  clear h hk C21
  have h := mulEven_nm P4 P3 qXm nXm nXm lXm (p - 1) e dp v21 F_P4.out F_P3.out F_Xm.out EXm.out NE_Xm_P4.out NE_Xm_P4.out LEXm.out.2
  rw [KN.out.edp] at h
  have C22 := Lib.hid h
  clear h
  go_wp2_with fail
  refine C22.out.mono ?_
  rintro e v22 ⟨rfl, h, hk⟩
  have F_Xm_ := F_Xm.out.away F_P4.out NE_Xm_P4.out NE_Xm_P4.out hk
  have F_P3_ := F_P3.out.away F_P4.out NE_P3_P4.out hk
  replace F_Xm := Lib.hid F_Xm_
  replace F_P3 := Lib.hid F_P3_
  clear F_Xm_ F_P3_
  replace A_b := Lib.hid (At2.new A_b.out hk LB_P4.out)
  replace F_P4 := Lib.hid h
  clear h hk C22
  have h := isOne_nm P4 lXm 1 v22 F_P4.out LEXm.out.1
  rw [show ((bitN (decide (1 = 1)) : Nat) : Int) = 1 from rfl] at h
  have C23 := Lib.hid h
  clear h
  go_wp2_with fail
  refine C23.out.mono ?_
  rintro e w' ⟨rfl, rfl⟩
  clear C23
  have C24 := Lib.hid (modNat_nm qQ pQ rQ nQ q v22 (MQ.out.still A_b.out))
  go_wp2_with fail
  refine C24.out.mono ?_
  rintro e v24 ⟨rfl, h, hk⟩
  obtain ⟨X4, hX4⟩ : ∃ X4, v22.heap.size + 1 = X4 := ⟨_, rfl⟩
  rw [hX4] at h ⊢
  have LB_X4 : Hid (b.heap.size < X4) := Lib.hid (by have := A_b.out.size; omega)
  have NE_Xm_X4 : Hid (nXm ≠ X4) := Lib.hid (by have := F_Xm.out.ltq; omega)
  have NE_P3_X4 : Hid (P3 ≠ X4) := Lib.hid (by have := F_P3.out.lt; omega)
  have NE_X4_P3 : Hid (X4 ≠ P3) := Lib.hid NE_P3_X4.out.symm
  have NE_P4_X4 : Hid (P4 ≠ X4) := Lib.hid (by have := F_P4.out.lt; omega)
  have NE_X4_P4 : Hid (X4 ≠ P4) := Lib.hid NE_P4_X4.out.symm
  replace F_Xm := Lib.hid (F_Xm.out.still hk)
  replace F_P3 := Lib.hid (F_P3.out.still hk)
  replace F_P4 := Lib.hid (F_P4.out.still hk)
  replace A_b := Lib.hid (A_b.out.none hk)
  have F_X4 := Lib.hid h
  clear h hk C24 hX4
  have C25 := Lib.hid (subOne_ge_nm X4 qQ pQ rQ nQ q q v24 F_X4.out (MQ.out.still A_b.out) (by have := LB_X4.out; have := BL.out; omega) (by have := KN.out.q3; omega))
  go_wp2_with fail
  refine C25.out.mono ?_
  rintro e v25 ⟨rfl, h, hk⟩
  have F_Xm_ := F_Xm.out.away F_X4.out NE_Xm_X4.out NE_Xm_X4.out hk
  have F_P3_ := F_P3.out.away F_X4.out NE_P3_X4.out hk
  have F_P4_ := F_P4.out.away F_X4.out NE_P4_X4.out hk
  replace F_Xm := Lib.hid F_Xm_
  replace F_P3 := Lib.hid F_P3_
  replace F_P4 := Lib.hid F_P4_
  clear F_Xm_ F_P3_ F_P4_
  replace A_b := Lib.hid (At2.new A_b.out hk LB_X4.out)
  replace F_X4 := Lib.hid h
  clear h hk C25
  have C26 := Lib.hid (bytes_nm X4 qQ pQ rQ nQ q (q - 1) SQ v25 F_X4.out (MQ.out.still A_b.out) HSQ.out (LTQ.out _ (Nat.sub_le _ _)))
  go_wp2_with fail
  refine C26.out.mono ?_
  rintro e v26 ⟨rfl, h, hk⟩
  obtain ⟨gY4, hgY4⟩ : ∃ gY4, v25.heap.size = gY4 := ⟨_, rfl⟩
  rw [hgY4] at h ⊢
  replace F_Xm := Lib.hid (F_Xm.out.still hk)
  replace F_P3 := Lib.hid (F_P3.out.still hk)
  replace F_P4 := Lib.hid (F_P4.out.still hk)
  replace F_X4 := Lib.hid (F_X4.out.still hk)
  replace A_b := Lib.hid (A_b.out.none hk)
  have F_Y4 := Lib.hid h.bytes
  clear h hk C26 hgY4
  have h := newMod_md (some ⟨gY4, 0, none⟩) SQ (enc SQ (q - 1)) v26 F_Y4.out (BytesAt.below F_Y4.out) (by rw [enc_length]; exact Nat.le_refl _) (by rw [enc_length]; have := SZ.out; omega) (by rw [ENQ.out _ (Nat.sub_le _ _)]; have := KN.out.q3; omega)
  rw [enc_length] at h
  have C27 := Lib.hid h
  clear h
  go_wp2_with fail
  refine C27.out.mono ?_
  rintro e v27 ⟨qYm, nYm, rYm, lYm, rfl, b1, b2, b3, h, hk⟩
  have NE_Ym_P3 : Hid (nYm ≠ P3) := Lib.hid (by have := F_P3.out.lt; omega)
  have NE_Ym_P4 : Hid (nYm ≠ P4) := Lib.hid (by have := F_P4.out.lt; omega)
  have NE_Ym_X4 : Hid (nYm ≠ X4) := Lib.hid (by have := F_X4.out.lt; omega)
  rw [ENQ.out _ (Nat.sub_le _ _)] at h
  replace F_Xm := Lib.hid (F_Xm.out.still hk)
  replace F_P3 := Lib.hid (F_P3.out.still hk)
  replace F_P4 := Lib.hid (F_P4.out.still hk)
  replace F_X4 := Lib.hid (F_X4.out.still hk)
  replace F_Y4 := Lib.hid (F_Y4.out.still hk)
  replace A_b := Lib.hid (A_b.out.none hk)
  have F_Ym := Lib.hid (h.evenPr EYm.out)
  clear h hk C27 b1 b2 b3
  clear F_X4 F_Y4
  have LEYm : Hid (1 ≤ lYm ∧ lYm < 16) := Lib.hid (by have h1 := F_Ym.out.2.1; have h2 := F_Ym.out.n_le (k := 10) (by have := bitLen_mono (Nat.sub_le q 1); have := KN.out.pb; have := KN.out.qb; omega); omega)
  have c6 : v27.cell? ⟨pk, 6, none⟩ = some (.slice (some aQ) bQ.length cQ) := (PB.out.kept A_b.out (fun e => e)).cellIs rfl
  have hkb6 : pk < v27.heap.size := Nat.lt_of_lt_of_le BL.out.2.2.2 A_b.out.size
  go_wp2_with fail
  go_region_held3 (fun w' => w'.cell? ⟨pk, 6, none⟩ = some (.slice (some aQ) bQ.length cQ)) (go_keep) (first | (go_at_call 41; refine (newNat_nm _).mono ?_; rintro e v28 ⟨rfl, h', hk'⟩; have hk : Kept NoBlk v27 v28 := ((Kept.refl NoBlk v27).drew).trans hk'; have h : Nm v28 (v27.heap.size + 1) 0 0 := h'; clear h' hk'; have cA6 : v28.cell? ⟨pk, 6, none⟩ = some (.slice (some aQ) bQ.length cQ) := (hk.cell (p := ⟨pk, 6, none⟩) hkb6 (fun e => e)).trans c6; obtain ⟨P5, hP5⟩ : ∃ P5, v27.heap.size + 1 = P5 := ⟨_, rfl⟩; rw [show v27.drew.heap.size = v27.heap.size from rfl, hP5]; rw [hP5] at h; have LB_P5 : Hid (b.heap.size < P5) := Lib.hid (by have := A_b.out.size; omega); have NE_Xm_P5 : Hid (nXm ≠ P5) := Lib.hid (by have := F_Xm.out.ltq; omega); have NE_P3_P5 : Hid (P3 ≠ P5) := Lib.hid (by have := F_P3.out.lt; omega); have NE_P5_P3 : Hid (P5 ≠ P3) := Lib.hid NE_P3_P5.out.symm; have NE_P4_P5 : Hid (P4 ≠ P5) := Lib.hid (by have := F_P4.out.lt; omega); have NE_P5_P4 : Hid (P5 ≠ P4) := Lib.hid NE_P4_P5.out.symm; have NE_Ym_P5 : Hid (nYm ≠ P5) := Lib.hid (by have := F_Ym.out.ltq; omega); replace F_Xm := Lib.hid (F_Xm.out.still hk); replace F_P3 := Lib.hid (F_P3.out.still hk); replace F_P4 := Lib.hid (F_P4.out.still hk); replace F_Ym := Lib.hid (F_Ym.out.still hk); replace A_b := Lib.hid (A_b.out.none hk); have F_P5 := Lib.hid h; clear h hk hP5) | (go_at_call 42; have h := setBytes_yes P5 qYm nYm nYm 0 0 lYm (q - 1) (some aQ) cQ bQ _ F_P5.out F_Ym.out NE_Ym_P5.out NE_Ym_P5.out (BQ.out.still A_b.out) (off_bytes F_P5.out (BQ.out.still A_b.out)) hcQ (by have := LBQ.out; have := F_Ym.out.bytes_le; have := LEYm.out; omega) (by rw [NBQ.out, ← KN.out.dqd]; exact Nat.mod_lt _ (by have := KN.out.q3; omega)) (Nat.le_trans LBQ.out F_Ym.out.bytes_le); rw [NBQ.out] at h; have CC := Lib.hid h; clear h; refine CC.out.mono ?_; rintro e v29 ⟨rfl, h, hk⟩; have cB6 : v29.cell? ⟨pk, 6, none⟩ = some (.slice (some aQ) bQ.length cQ) := (hk.cell (p := ⟨pk, 6, none⟩) (Nat.lt_of_lt_of_le BL.out.2.2.2 A_b.out.size) (show ¬ At2 P5 pk from fun e => by unfold At2 at e; have := LB_P5.out; have := BL.out; omega)).trans cA6; have F_Xm_ := F_Xm.out.away F_P5.out NE_Xm_P5.out NE_Xm_P5.out hk; have F_P3_ := F_P3.out.away F_P5.out NE_P3_P5.out hk; have F_P4_ := F_P4.out.away F_P5.out NE_P4_P5.out hk; have F_Ym_ := F_Ym.out.away F_P5.out NE_Ym_P5.out NE_Ym_P5.out hk; replace F_Xm := Lib.hid F_Xm_; replace F_P3 := Lib.hid F_P3_; replace F_P4 := Lib.hid F_P4_; replace F_Ym := Lib.hid F_Ym_; clear F_Xm_ F_P3_ F_P4_ F_Ym_; replace A_b := Lib.hid (At2.new A_b.out hk LB_P5.out); replace F_P5 := Lib.hid h; clear h hk CC))
  clear c6 cA6 cB6 hkb6
  have c1 : v29.cell? ⟨pk, 1, none⟩ = some (.int .i64 (e : Int)) := (PB.out.kept A_b.out (fun e => e)).cellIs rfl
  have hee : (e : Int) ≤ 2147483647 := by have := KN.out.em; omega
  have heu : IntKind.u64.wrap (e : Int) = (e : Int) := by rw [IntKind.wrap_u64]; omega
  have C30 := Lib.hid (setUint_nm P4 lXm 1 e v29 F_P4.out (by have := KN.out.em; omega))
  go_wp2_with fail
  refine C30.out.mono ?_
  rintro e v30 ⟨rfl, h, hk⟩
  have F_Xm_ := F_Xm.out.away F_P4.out NE_Xm_P4.out NE_Xm_P4.out hk
  have F_P3_ := F_P3.out.away F_P4.out NE_P3_P4.out hk
  have F_Ym_ := F_Ym.out.away F_P4.out NE_Ym_P4.out NE_Ym_P4.out hk
  have F_P5_ := F_P5.out.away F_P4.out NE_P5_P4.out hk
  replace F_Xm := Lib.hid F_Xm_
  replace F_P3 := Lib.hid F_P3_
  replace F_Ym := Lib.hid F_Ym_
  replace F_P5 := Lib.hid F_P5_
  clear F_Xm_ F_P3_ F_Ym_ F_P5_
  replace A_b := Lib.hid (At2.new A_b.out hk LB_P4.out)
  replace F_P4 := Lib.hid h
  clear h hk C30
  clear c1 hee heu
  have C31 := Lib.hid (expandFor_nm P4 qYm nYm nYm 1 e lYm (q - 1) v30 F_P4.out F_Ym.out LEYm.out.1)
  go_wp2_with fail
  refine C31.out.mono ?_
  rintro e v31 ⟨rfl, h, hk⟩
  have F_Xm_ := F_Xm.out.away F_P4.out NE_Xm_P4.out NE_Xm_P4.out hk
  have F_P3_ := F_P3.out.away F_P4.out NE_P3_P4.out hk
  have F_Ym_ := F_Ym.out.away F_P4.out NE_Ym_P4.out NE_Ym_P4.out hk
  have F_P5_ := F_P5.out.away F_P4.out NE_P5_P4.out hk
  replace F_Xm := Lib.hid F_Xm_
  replace F_P3 := Lib.hid F_P3_
  replace F_Ym := Lib.hid F_Ym_
  replace F_P5 := Lib.hid F_P5_
  clear F_Xm_ F_P3_ F_Ym_ F_P5_
  replace A_b := Lib.hid (At2.new A_b.out hk LB_P4.out)
  replace F_P4 := Lib.hid h
  clear h hk C31
  have h := mulEven_nm P4 P5 qYm nYm nYm lYm (q - 1) e dq v31 F_P4.out F_P5.out F_Ym.out EYm.out NE_Ym_P4.out NE_Ym_P4.out LEYm.out.2
  rw [KN.out.edq] at h
  have C32 := Lib.hid h
  clear h
  go_wp2_with fail
  refine C32.out.mono ?_
  rintro e v32 ⟨rfl, h, hk⟩
  have F_Xm_ := F_Xm.out.away F_P4.out NE_Xm_P4.out NE_Xm_P4.out hk
  have F_P3_ := F_P3.out.away F_P4.out NE_P3_P4.out hk
  have F_Ym_ := F_Ym.out.away F_P4.out NE_Ym_P4.out NE_Ym_P4.out hk
  have F_P5_ := F_P5.out.away F_P4.out NE_P5_P4.out hk
  replace F_Xm := Lib.hid F_Xm_
  replace F_P3 := Lib.hid F_P3_
  replace F_Ym := Lib.hid F_Ym_
  replace F_P5 := Lib.hid F_P5_
  clear F_Xm_ F_P3_ F_Ym_ F_P5_
  replace A_b := Lib.hid (At2.new A_b.out hk LB_P4.out)
  replace F_P4 := Lib.hid h
  clear h hk C32
  have h := isOne_nm P4 lYm 1 v32 F_P4.out LEYm.out.1
  rw [show ((bitN (decide (1 = 1)) : Nat) : Int) = 1 from rfl] at h
  have C33 := Lib.hid h
  clear h
  go_wp2_with fail
  refine C33.out.mono ?_
  rintro e w' ⟨rfl, rfl⟩
  clear C33
  clear F_P4
  have INVQ : Hid (q * qi % p = 1) := Lib.hid (by have h := KN.out.inv; rw [Nat.mod_mul_mod] at h; exact h)
  obtain ⟨bm, hbm⟩ : ∃ bm, bitLen m = bm := ⟨_, rfl⟩
  obtain ⟨bdd, hbd⟩ : ∃ bdd, bitLen d = bdd := ⟨_, rfl⟩
  obtain ⟨bf, hbf⟩ : ∃ bf, bitLen (p - q + (q - p)) = bf := ⟨_, rfl⟩
  have HBM := Lib.hid hbm
  have HBD := Lib.hid hbd
  have HBF := Lib.hid hbf
  have FAR : Hid (¬ (bf : Int) ≤ (bm : Int) / 2 - 100) := Lib.hid (by have := KN.out.far; rw [hbm, hbf] at this; omega)
  have BIG : Hid (¬ (bdd : Int) ≤ (bm : Int) / 2) := Lib.hid (by have := KN.out.big; rw [hbm, hbd] at this; omega)
  have BMS : Hid ((0 : Int) ≤ (bm : Int) ∧ (bm : Int) ≤ 2048) := Lib.hid (by have := KN.out.mb; rw [hbm] at this; omega)
  clear hbm hbd hbf
  have C34 := Lib.hid (newNat_nm v32)
  go_wp2_with fail
  refine C34.out.mono ?_
  rintro e v34 ⟨rfl, h, hk⟩
  obtain ⟨P6, hP6⟩ : ∃ P6, v32.heap.size + 1 = P6 := ⟨_, rfl⟩
  rw [hP6] at h ⊢
  have LB_P6 : Hid (b.heap.size < P6) := Lib.hid (by have := A_b.out.size; omega)
  have NE_Xm_P6 : Hid (nXm ≠ P6) := Lib.hid (by have := F_Xm.out.ltq; omega)
  have NE_P3_P6 : Hid (P3 ≠ P6) := Lib.hid (by have := F_P3.out.lt; omega)
  have NE_P6_P3 : Hid (P6 ≠ P3) := Lib.hid NE_P3_P6.out.symm
  have NE_Ym_P6 : Hid (nYm ≠ P6) := Lib.hid (by have := F_Ym.out.ltq; omega)
  have NE_P5_P6 : Hid (P5 ≠ P6) := Lib.hid (by have := F_P5.out.lt; omega)
  have NE_P6_P5 : Hid (P6 ≠ P5) := Lib.hid NE_P5_P6.out.symm
  replace F_Xm := Lib.hid (F_Xm.out.still hk)
  replace F_P3 := Lib.hid (F_P3.out.still hk)
  replace F_Ym := Lib.hid (F_Ym.out.still hk)
  replace F_P5 := Lib.hid (F_P5.out.still hk)
  replace A_b := Lib.hid (A_b.out.none hk)
  have F_P6 := Lib.hid h
  clear h hk C34 hP6
  have C35 := Lib.hid (modNat_nm qQ pQ rQ nQ q v34 (MQ.out.still A_b.out))
  go_wp2_with fail
  refine C35.out.mono ?_
  rintro e v35 ⟨rfl, h, hk⟩
  obtain ⟨X5, hX5⟩ : ∃ X5, v34.heap.size + 1 = X5 := ⟨_, rfl⟩
  rw [hX5] at h ⊢
  have LB_X5 : Hid (b.heap.size < X5) := Lib.hid (by have := A_b.out.size; omega)
  have NE_Xm_X5 : Hid (nXm ≠ X5) := Lib.hid (by have := F_Xm.out.ltq; omega)
  have NE_P3_X5 : Hid (P3 ≠ X5) := Lib.hid (by have := F_P3.out.lt; omega)
  have NE_X5_P3 : Hid (X5 ≠ P3) := Lib.hid NE_P3_X5.out.symm
  have NE_Ym_X5 : Hid (nYm ≠ X5) := Lib.hid (by have := F_Ym.out.ltq; omega)
  have NE_P5_X5 : Hid (P5 ≠ X5) := Lib.hid (by have := F_P5.out.lt; omega)
  have NE_X5_P5 : Hid (X5 ≠ P5) := Lib.hid NE_P5_X5.out.symm
  have NE_P6_X5 : Hid (P6 ≠ X5) := Lib.hid (by have := F_P6.out.lt; omega)
  have NE_X5_P6 : Hid (X5 ≠ P6) := Lib.hid NE_P6_X5.out.symm
  replace F_Xm := Lib.hid (F_Xm.out.still hk)
  replace F_P3 := Lib.hid (F_P3.out.still hk)
  replace F_Ym := Lib.hid (F_Ym.out.still hk)
  replace F_P5 := Lib.hid (F_P5.out.still hk)
  replace F_P6 := Lib.hid (F_P6.out.still hk)
  replace A_b := Lib.hid (A_b.out.none hk)
  have F_X5 := Lib.hid h
  clear h hk C35 hX5
  have C36 := Lib.hid (bytes_nm X5 qQ pQ rQ nQ q q SQ v35 F_X5.out (MQ.out.still A_b.out) HSQ.out (LTQ.out _ (Nat.le_refl _)))
  go_wp2_with fail
  refine C36.out.mono ?_
  rintro e v36 ⟨rfl, h, hk⟩
  obtain ⟨gY5, hgY5⟩ : ∃ gY5, v35.heap.size = gY5 := ⟨_, rfl⟩
  rw [hgY5] at h ⊢
  replace F_Xm := Lib.hid (F_Xm.out.still hk)
  replace F_P3 := Lib.hid (F_P3.out.still hk)
  replace F_Ym := Lib.hid (F_Ym.out.still hk)
  replace F_P5 := Lib.hid (F_P5.out.still hk)
  replace F_P6 := Lib.hid (F_P6.out.still hk)
  replace F_X5 := Lib.hid (F_X5.out.still hk)
  replace A_b := Lib.hid (A_b.out.none hk)
  have F_Y5 := Lib.hid h.bytes
  clear h hk C36 hgY5
  rcases KN.out.cmp with ⟨hq1, hq2⟩ | ⟨hq1, hq2, hq3⟩
  · skip
    have h := setOver_yes P6 qP pP rP _ _ nP p (some ⟨gY5, 0, none⟩) SQ (enc SQ q) v36 F_P6.out (MP.out.still A_b.out) (by have := LB_P6.out; have := BL.out; omega) (by have := LB_P6.out; have := BL.out; omega) F_Y5.out (off_bytes F_P6.out F_Y5.out) (by rw [enc_length]; exact Nat.le_refl _) (by rw [enc_length]; have := SZ.out; omega) (by rw [ENQ.out _ (Nat.le_refl _)]; exact hq1) (by rw [enc_length, ← HSQ.out]; exact Nat.le_trans hq2 MP.out.bytes_le)
    rw [enc_length, ENQ.out _ (Nat.le_refl _)] at h
    have C37 := Lib.hid h
    clear h
    go_wp2_with fail
    refine C37.out.mono ?_
    rintro e v37 ⟨rfl, h, hk⟩
    have F_Xm_ := F_Xm.out.away F_P6.out NE_Xm_P6.out NE_Xm_P6.out hk
    have F_P3_ := F_P3.out.away F_P6.out NE_P3_P6.out hk
    have F_Ym_ := F_Ym.out.away F_P6.out NE_Ym_P6.out NE_Ym_P6.out hk
    have F_P5_ := F_P5.out.away F_P6.out NE_P5_P6.out hk
    have F_X5_ := F_X5.out.away F_P6.out NE_X5_P6.out hk
    have F_Y5_ := F_Y5.out.at2 hk (off_bytes F_P6.out F_Y5.out)
    replace F_Xm := Lib.hid F_Xm_
    replace F_P3 := Lib.hid F_P3_
    replace F_Ym := Lib.hid F_Ym_
    replace F_P5 := Lib.hid F_P5_
    replace F_X5 := Lib.hid F_X5_
    replace F_Y5 := Lib.hid F_Y5_
    clear F_Xm_ F_P3_ F_Ym_ F_P5_ F_X5_ F_Y5_
    replace A_b := Lib.hid (At2.new A_b.out hk LB_P6.out)
    replace F_P6 := Lib.hid h
    clear h hk C37
    clear F_X5 F_Y5
    have c7 : v37.cell? ⟨pk, 7, none⟩ = some (.pointer (some ⟨bi, 0, none⟩)) := (PB.out.kept A_b.out (fun e => e)).cellIs rfl
    have h := mulOdd_nm P6 bi qP pP rP nP p q qi v37 F_P6.out (NI.out.still A_b.out) (MP.out.still A_b.out) KN.out.po (by have := LB_P6.out; have := BL.out; omega) hq1
    rw [INVQ.out] at h
    have C38 := Lib.hid h
    clear h
    go_wp2_with fail
    refine C38.out.mono ?_
    rintro e v38 ⟨rfl, h, hk⟩
    have F_Xm_ := F_Xm.out.away F_P6.out NE_Xm_P6.out NE_Xm_P6.out hk
    have F_P3_ := F_P3.out.away F_P6.out NE_P3_P6.out hk
    have F_Ym_ := F_Ym.out.away F_P6.out NE_Ym_P6.out NE_Ym_P6.out hk
    have F_P5_ := F_P5.out.away F_P6.out NE_P5_P6.out hk
    replace F_Xm := Lib.hid F_Xm_
    replace F_P3 := Lib.hid F_P3_
    replace F_Ym := Lib.hid F_Ym_
    replace F_P5 := Lib.hid F_P5_
    clear F_Xm_ F_P3_ F_Ym_ F_P5_
    replace A_b := Lib.hid (At2.new A_b.out hk LB_P6.out)
    replace F_P6 := Lib.hid h
    clear h hk C38
    clear c7
    have h := isOne_nm P6 nP 1 v38 F_P6.out MP.out.2.1
    rw [show ((bitN (decide (1 = 1)) : Nat) : Int) = 1 from rfl] at h
    have C39 := Lib.hid h
    clear h
    go_wp2_with fail
    refine C39.out.mono ?_
    rintro e w' ⟨rfl, rfl⟩
    clear C39
    clear F_P6
    have c2 : v38.cell? ⟨pk, 2, none⟩ = some (.pointer (some ⟨bd, 0, none⟩)) := (PB.out.kept A_b.out (fun e => e)).cellIs rfl
    have hkb2 : pk < v38.heap.size := Nat.lt_of_lt_of_le BL.out.2.2.2 A_b.out.size
    go_wp2_with fail
    go_region_held3 (fun w' => w'.cell? ⟨pk, 2, none⟩ = some (.pointer (some ⟨bd, 0, none⟩))) (go_keep) (first | (go_at_call 41; refine (newNat_nm _).mono ?_; rintro e v40 ⟨rfl, h', hk'⟩; have hk : Kept NoBlk v38 v40 := ((Kept.refl NoBlk v38).drew).trans hk'; have h : Nm v40 (v38.heap.size + 1) 0 0 := h'; clear h' hk'; have cA2 : v40.cell? ⟨pk, 2, none⟩ = some (.pointer (some ⟨bd, 0, none⟩)) := (hk.cell (p := ⟨pk, 2, none⟩) hkb2 (fun e => e)).trans c2; obtain ⟨P8, hP8⟩ : ∃ P8, v38.heap.size + 1 = P8 := ⟨_, rfl⟩; rw [show v38.drew.heap.size = v38.heap.size from rfl, hP8]; rw [hP8] at h; have LB_P8 : Hid (b.heap.size < P8) := Lib.hid (by have := A_b.out.size; omega); have NE_Xm_P8 : Hid (nXm ≠ P8) := Lib.hid (by have := F_Xm.out.ltq; omega); have NE_P3_P8 : Hid (P3 ≠ P8) := Lib.hid (by have := F_P3.out.lt; omega); have NE_P8_P3 : Hid (P8 ≠ P3) := Lib.hid NE_P3_P8.out.symm; have NE_Ym_P8 : Hid (nYm ≠ P8) := Lib.hid (by have := F_Ym.out.ltq; omega); have NE_P5_P8 : Hid (P5 ≠ P8) := Lib.hid (by have := F_P5.out.lt; omega); have NE_P8_P5 : Hid (P8 ≠ P5) := Lib.hid NE_P5_P8.out.symm; replace F_Xm := Lib.hid (F_Xm.out.still hk); replace F_P3 := Lib.hid (F_P3.out.still hk); replace F_Ym := Lib.hid (F_Ym.out.still hk); replace F_P5 := Lib.hid (F_P5.out.still hk); replace A_b := Lib.hid (A_b.out.none hk); have F_P8 := Lib.hid h; clear h hk hP8) | (go_at_call 59; have h := mod_nm P8 bd qXm nXm nXm 0 0 nN d lXm (p - 1) _ F_P8.out (ND.out.still A_b.out) F_Xm.out NE_Xm_P8.out NE_Xm_P8.out (by have := LB_P8.out; have := ND.out.lt; omega); rw [KN.out.dpd] at h; have CC := Lib.hid h; clear h; refine CC.out.mono ?_; rintro e v41 ⟨rfl, h, hk⟩; have cB2 : v41.cell? ⟨pk, 2, none⟩ = some (.pointer (some ⟨bd, 0, none⟩)) := (hk.cell (p := ⟨pk, 2, none⟩) (Nat.lt_of_lt_of_le BL.out.2.2.2 A_b.out.size) (show ¬ At2 P8 pk from fun e => by unfold At2 at e; have := LB_P8.out; have := BL.out; omega)).trans cA2; have F_Xm_ := F_Xm.out.away F_P8.out NE_Xm_P8.out NE_Xm_P8.out hk; have F_P3_ := F_P3.out.away F_P8.out NE_P3_P8.out hk; have F_Ym_ := F_Ym.out.away F_P8.out NE_Ym_P8.out NE_Ym_P8.out hk; have F_P5_ := F_P5.out.away F_P8.out NE_P5_P8.out hk; replace F_Xm := Lib.hid F_Xm_; replace F_P3 := Lib.hid F_P3_; replace F_Ym := Lib.hid F_Ym_; replace F_P5 := Lib.hid F_P5_; clear F_Xm_ F_P3_ F_Ym_ F_P5_; replace A_b := Lib.hid (At2.new A_b.out hk LB_P8.out); replace F_P8 := Lib.hid h; clear h hk CC))
    clear c2 cA2 cB2 hkb2
    have h := equal_nm P8 P3 lXm dp dp v41 F_P8.out F_P3.out
    rw [show ((bitN (decide (dp = dp)) : Nat) : Int) = 1 by rw [decide_eq_true rfl]; rfl] at h
    have C42 := Lib.hid h
    clear h
    go_wp2_with fail
    refine C42.out.mono ?_
    rintro e v42 ⟨rfl, hk⟩
    replace F_Xm := Lib.hid (F_Xm.out.still hk)
    replace F_P3 := Lib.hid (F_P3.out.still hk)
    replace F_Ym := Lib.hid (F_Ym.out.still hk)
    replace F_P5 := Lib.hid (F_P5.out.still hk)
    replace F_P8 := Lib.hid (F_P8.out.still hk)
    replace A_b := Lib.hid (A_b.out.none hk)
    clear hk C42
    clear F_P8 F_P3 F_Xm
    have c2 : v42.cell? ⟨pk, 2, none⟩ = some (.pointer (some ⟨bd, 0, none⟩)) := (PB.out.kept A_b.out (fun e => e)).cellIs rfl
    have hkb2 : pk < v42.heap.size := Nat.lt_of_lt_of_le BL.out.2.2.2 A_b.out.size
    go_wp2_with fail
    go_region_held3 (fun w' => w'.cell? ⟨pk, 2, none⟩ = some (.pointer (some ⟨bd, 0, none⟩))) (go_keep) (first | (go_at_call 41; refine (newNat_nm _).mono ?_; rintro e v43 ⟨rfl, h', hk'⟩; have hk : Kept NoBlk v42 v43 := ((Kept.refl NoBlk v42).drew).trans hk'; have h : Nm v43 (v42.heap.size + 1) 0 0 := h'; clear h' hk'; have cA2 : v43.cell? ⟨pk, 2, none⟩ = some (.pointer (some ⟨bd, 0, none⟩)) := (hk.cell (p := ⟨pk, 2, none⟩) hkb2 (fun e => e)).trans c2; obtain ⟨P9, hP9⟩ : ∃ P9, v42.heap.size + 1 = P9 := ⟨_, rfl⟩; rw [show v42.drew.heap.size = v42.heap.size from rfl, hP9]; rw [hP9] at h; have LB_P9 : Hid (b.heap.size < P9) := Lib.hid (by have := A_b.out.size; omega); have NE_Ym_P9 : Hid (nYm ≠ P9) := Lib.hid (by have := F_Ym.out.ltq; omega); have NE_P5_P9 : Hid (P5 ≠ P9) := Lib.hid (by have := F_P5.out.lt; omega); have NE_P9_P5 : Hid (P9 ≠ P5) := Lib.hid NE_P5_P9.out.symm; replace F_Ym := Lib.hid (F_Ym.out.still hk); replace F_P5 := Lib.hid (F_P5.out.still hk); replace A_b := Lib.hid (A_b.out.none hk); have F_P9 := Lib.hid h; clear h hk hP9) | (go_at_call 59; have h := mod_nm P9 bd qYm nYm nYm 0 0 nN d lYm (q - 1) _ F_P9.out (ND.out.still A_b.out) F_Ym.out NE_Ym_P9.out NE_Ym_P9.out (by have := LB_P9.out; have := ND.out.lt; omega); rw [KN.out.dqd] at h; have CC := Lib.hid h; clear h; refine CC.out.mono ?_; rintro e v44 ⟨rfl, h, hk⟩; have cB2 : v44.cell? ⟨pk, 2, none⟩ = some (.pointer (some ⟨bd, 0, none⟩)) := (hk.cell (p := ⟨pk, 2, none⟩) (Nat.lt_of_lt_of_le BL.out.2.2.2 A_b.out.size) (show ¬ At2 P9 pk from fun e => by unfold At2 at e; have := LB_P9.out; have := BL.out; omega)).trans cA2; have F_Ym_ := F_Ym.out.away F_P9.out NE_Ym_P9.out NE_Ym_P9.out hk; have F_P5_ := F_P5.out.away F_P9.out NE_P5_P9.out hk; replace F_Ym := Lib.hid F_Ym_; replace F_P5 := Lib.hid F_P5_; clear F_Ym_ F_P5_; replace A_b := Lib.hid (At2.new A_b.out hk LB_P9.out); replace F_P9 := Lib.hid h; clear h hk CC))
    clear c2 cA2 cB2 hkb2
    have h := equal_nm P9 P5 lYm dq dq v44 F_P9.out F_P5.out
    rw [show ((bitN (decide (dq = dq)) : Nat) : Int) = 1 by rw [decide_eq_true rfl]; rfl] at h
    have C45 := Lib.hid h
    clear h
    go_wp2_with fail
    refine C45.out.mono ?_
    rintro e v45 ⟨rfl, hk⟩
    replace F_Ym := Lib.hid (F_Ym.out.still hk)
    replace F_P5 := Lib.hid (F_P5.out.still hk)
    replace F_P9 := Lib.hid (F_P9.out.still hk)
    replace A_b := Lib.hid (A_b.out.none hk)
    clear hk C45
    clear F_P9 F_P5 F_Ym
    have C46 := Lib.hid (newNat_nm v45)
    go_wp2_with fail
    refine C46.out.mono ?_
    rintro e v46 ⟨rfl, h, hk⟩
    obtain ⟨P10, hP10⟩ : ∃ P10, v45.heap.size + 1 = P10 := ⟨_, rfl⟩
    rw [hP10] at h ⊢
    have LB_P10 : Hid (b.heap.size < P10) := Lib.hid (by have := A_b.out.size; omega)
    replace A_b := Lib.hid (A_b.out.none hk)
    have F_P10 := Lib.hid h
    clear h hk C46 hP10
    have C47 := Lib.hid (newNat_nm v46)
    go_wp2_with fail
    refine C47.out.mono ?_
    rintro e v47 ⟨rfl, h, hk⟩
    obtain ⟨P11, hP11⟩ : ∃ P11, v46.heap.size + 1 = P11 := ⟨_, rfl⟩
    rw [hP11] at h ⊢
    have LB_P11 : Hid (b.heap.size < P11) := Lib.hid (by have := A_b.out.size; omega)
    have NE_P10_P11 : Hid (P10 ≠ P11) := Lib.hid (by have := F_P10.out.lt; omega)
    have NE_P11_P10 : Hid (P11 ≠ P10) := Lib.hid NE_P10_P11.out.symm
    replace F_P10 := Lib.hid (F_P10.out.still hk)
    replace A_b := Lib.hid (A_b.out.none hk)
    have F_P11 := Lib.hid h
    clear h hk C47 hP11
    have C48 := Lib.hid (modNat_nm qQ pQ rQ nQ q v47 (MQ.out.still A_b.out))
    go_wp2_with fail
    refine C48.out.mono ?_
    rintro e v48 ⟨rfl, h, hk⟩
    obtain ⟨X7, hX7⟩ : ∃ X7, v47.heap.size + 1 = X7 := ⟨_, rfl⟩
    rw [hX7] at h ⊢
    have LB_X7 : Hid (b.heap.size < X7) := Lib.hid (by have := A_b.out.size; omega)
    have NE_P10_X7 : Hid (P10 ≠ X7) := Lib.hid (by have := F_P10.out.lt; omega)
    have NE_X7_P10 : Hid (X7 ≠ P10) := Lib.hid NE_P10_X7.out.symm
    have NE_P11_X7 : Hid (P11 ≠ X7) := Lib.hid (by have := F_P11.out.lt; omega)
    have NE_X7_P11 : Hid (X7 ≠ P11) := Lib.hid NE_P11_X7.out.symm
    replace F_P10 := Lib.hid (F_P10.out.still hk)
    replace F_P11 := Lib.hid (F_P11.out.still hk)
    replace A_b := Lib.hid (A_b.out.none hk)
    have F_X7 := Lib.hid h
    clear h hk C48 hX7
    have C49 := Lib.hid (bytes_nm X7 qQ pQ rQ nQ q q SQ v48 F_X7.out (MQ.out.still A_b.out) HSQ.out (LTQ.out _ (Nat.le_refl _)))
    go_wp2_with fail
    refine C49.out.mono ?_
    rintro e v49 ⟨rfl, h, hk⟩
    obtain ⟨gY7, hgY7⟩ : ∃ gY7, v48.heap.size = gY7 := ⟨_, rfl⟩
    rw [hgY7] at h ⊢
    replace F_P10 := Lib.hid (F_P10.out.still hk)
    replace F_P11 := Lib.hid (F_P11.out.still hk)
    replace F_X7 := Lib.hid (F_X7.out.still hk)
    replace A_b := Lib.hid (A_b.out.none hk)
    have F_Y7 := Lib.hid h.bytes
    clear h hk C49 hgY7
    have h := setBytes_yes P11 qP pP rP _ _ nP p (some ⟨gY7, 0, none⟩) SQ (enc SQ q) v49 F_P11.out (MP.out.still A_b.out) (by have := LB_P11.out; have := BL.out; omega) (by have := LB_P11.out; have := BL.out; omega) F_Y7.out (off_bytes F_P11.out F_Y7.out) (by rw [enc_length]; exact Nat.le_refl _) (by rw [enc_length]; have := SZ.out; omega) (by rw [ENQ.out _ (Nat.le_refl _)]; exact hq1) (by rw [enc_length, ← HSQ.out]; exact Nat.le_trans hq2 MP.out.bytes_le)
    rw [enc_length, ENQ.out _ (Nat.le_refl _)] at h
    have C50 := Lib.hid h
    clear h
    go_wp2_with fail
    refine C50.out.mono ?_
    rintro e v50 ⟨rfl, h, hk⟩
    have F_P10_ := F_P10.out.away F_P11.out NE_P10_P11.out hk
    have F_X7_ := F_X7.out.away F_P11.out NE_X7_P11.out hk
    have F_Y7_ := F_Y7.out.at2 hk (off_bytes F_P11.out F_Y7.out)
    replace F_P10 := Lib.hid F_P10_
    replace F_X7 := Lib.hid F_X7_
    replace F_Y7 := Lib.hid F_Y7_
    clear F_P10_ F_X7_ F_Y7_
    replace A_b := Lib.hid (At2.new A_b.out hk LB_P11.out)
    replace F_P11 := Lib.hid h
    clear h hk C50
    clear F_X7 F_Y7
    have C51 := Lib.hid (expandFor_nm P10 qP pP rP 0 0 nP p v50 F_P10.out (MP.out.still A_b.out) (Nat.zero_le _))
    go_wp2_with fail
    refine C51.out.mono ?_
    rintro e v51 ⟨rfl, h, hk⟩
    have F_P11_ := F_P11.out.away F_P10.out NE_P11_P10.out hk
    replace F_P11 := Lib.hid F_P11_
    clear F_P11_
    replace A_b := Lib.hid (At2.new A_b.out hk LB_P10.out)
    replace F_P10 := Lib.hid h
    clear h hk C51
    have h := sub_nm P10 P11 qP pP rP nP p 0 q v51 F_P10.out F_P11.out (MP.out.still A_b.out) (by have := LB_P10.out; have := BL.out; omega) NE_P10_P11.out (by have := KN.out.p3; omega) hq1
    rw [show (0 + p - q) % p = p - q by rw [Nat.zero_add]; exact Nat.mod_eq_of_lt (by have := KN.out.q3; omega)] at h
    have C52 := Lib.hid h
    clear h
    go_wp2_with fail
    refine C52.out.mono ?_
    rintro e v52 ⟨rfl, h, hk⟩
    have F_P11_ := F_P11.out.away F_P10.out NE_P11_P10.out hk
    replace F_P11 := Lib.hid F_P11_
    clear F_P11_
    replace A_b := Lib.hid (At2.new A_b.out hk LB_P10.out)
    replace F_P10 := Lib.hid h
    clear h hk C52
    have h := bitLenVar_nm P10 nP (p - q) v52 F_P10.out
    rw [show bitLen (p - q) = bf by rw [← HBF.out]; congr 1; omega] at h
    have C53 := Lib.hid h
    clear h
    go_wp2_with fail
    refine C53.out.mono ?_
    rintro e w' ⟨rfl, rfl⟩
    clear C53
    have h := bitLen_md qN pN rN nN m v52 (MN.out.still A_b.out)
    rw [HBM.out] at h
    have C54 := Lib.hid h
    clear h
    go_wp2_with fail
    refine C54.out.mono ?_
    rintro e w' ⟨rfl, rfl⟩
    clear C54
    have far := FAR.out
    have bms := BMS.out.1
    have bmt := BMS.out.2
    have big := BIG.out
    have tdv : (bm : Int).tdiv 2 = (bm : Int) / 2 := Int.tdiv_eq_ediv_of_nonneg bms
    have c2 : v52.cell? ⟨pk, 2, none⟩ = some (.pointer (some ⟨bd, 0, none⟩)) := (PB.out.kept A_b.out (fun e => e)).cellIs rfl
    have h := bitLenVar_nm bd nN d v52 (ND.out.still A_b.out)
    rw [HBD.out] at h
    have C55 := Lib.hid h
    clear h
    go_wp2_with fail
    refine C55.out.mono ?_
    rintro e w' ⟨rfl, rfl⟩
    clear C55
    have h := bitLen_md qN pN rN nN m v52 (MN.out.still A_b.out)
    rw [HBM.out] at h
    have C56 := Lib.hid h
    clear h
    go_wp2_with fail
    refine C56.out.mono ?_
    rintro e w' ⟨rfl, rfl⟩
    clear C56
    have FIN : Hid (Kept NoBlk w0 v52 ∧ Blk v52 pk 80 #[.pointer (some ⟨qN, 0, none⟩), .int .i64 (e : Int), .pointer (some ⟨bd, 0, none⟩), .pointer (some ⟨qP, 0, none⟩), .pointer (some ⟨qQ, 0, none⟩), .slice (some aP) bP.length cP, .slice (some aQ) bQ.length cQ, .pointer (some ⟨bi, 0, none⟩), .bool false]) := Lib.hid ⟨HKb.out.none A_b.out, PB.out.kept A_b.out (fun e => e)⟩
    go_wp2_with fail
    go_ret
    exact ⟨rfl, FIN.out⟩
  · skip
    have h := setOver_no P6 qP pP rP _ _ nP p (some ⟨gY5, 0, none⟩) SQ (enc SQ q) v36 F_P6.out (MP.out.still A_b.out) (by have := LB_P6.out; have := BL.out; omega) (by have := LB_P6.out; have := BL.out; omega) F_Y5.out (off_bytes F_P6.out F_Y5.out) (by rw [enc_length]; exact Nat.le_refl _) (by rw [enc_length]; have := SZ.out; omega) (by rw [ENQ.out _ (Nat.le_refl _)]; exact hq1)
    rw [enc_length] at h
    have C101 := Lib.hid h
    clear h
    go_wp2_with fail
    refine C101.out.mono ?_
    rintro e v101 ⟨ae, rfl, hk⟩
    have F_Xm_ := F_Xm.out.away F_P6.out NE_Xm_P6.out NE_Xm_P6.out hk
    have F_P3_ := F_P3.out.away F_P6.out NE_P3_P6.out hk
    have F_Ym_ := F_Ym.out.away F_P6.out NE_Ym_P6.out NE_Ym_P6.out hk
    have F_P5_ := F_P5.out.away F_P6.out NE_P5_P6.out hk
    have F_X5_ := F_X5.out.away F_P6.out NE_X5_P6.out hk
    have F_Y5_ := F_Y5.out.at2 hk (off_bytes F_P6.out F_Y5.out)
    replace F_Xm := Lib.hid F_Xm_
    replace F_P3 := Lib.hid F_P3_
    replace F_Ym := Lib.hid F_Ym_
    replace F_P5 := Lib.hid F_P5_
    replace F_X5 := Lib.hid F_X5_
    replace F_Y5 := Lib.hid F_Y5_
    clear F_Xm_ F_P3_ F_Ym_ F_P5_ F_X5_ F_Y5_
    replace A_b := Lib.hid (At2.new A_b.out hk LB_P6.out)
    clear hk C101
    clear F_X5 F_Y5 F_P6
    have C102 := Lib.hid (newNat_nm v101)
    go_wp2_with fail
    refine C102.out.mono ?_
    rintro e v102 ⟨rfl, h, hk⟩
    obtain ⟨P7, hP7⟩ : ∃ P7, v101.heap.size + 1 = P7 := ⟨_, rfl⟩
    rw [hP7] at h ⊢
    have LB_P7 : Hid (b.heap.size < P7) := Lib.hid (by have := A_b.out.size; omega)
    have NE_Xm_P7 : Hid (nXm ≠ P7) := Lib.hid (by have := F_Xm.out.ltq; omega)
    have NE_P3_P7 : Hid (P3 ≠ P7) := Lib.hid (by have := F_P3.out.lt; omega)
    have NE_P7_P3 : Hid (P7 ≠ P3) := Lib.hid NE_P3_P7.out.symm
    have NE_Ym_P7 : Hid (nYm ≠ P7) := Lib.hid (by have := F_Ym.out.ltq; omega)
    have NE_P5_P7 : Hid (P5 ≠ P7) := Lib.hid (by have := F_P5.out.lt; omega)
    have NE_P7_P5 : Hid (P7 ≠ P5) := Lib.hid NE_P5_P7.out.symm
    replace F_Xm := Lib.hid (F_Xm.out.still hk)
    replace F_P3 := Lib.hid (F_P3.out.still hk)
    replace F_Ym := Lib.hid (F_Ym.out.still hk)
    replace F_P5 := Lib.hid (F_P5.out.still hk)
    replace A_b := Lib.hid (A_b.out.none hk)
    have F_P7 := Lib.hid h
    clear h hk C102 hP7
    have C103 := Lib.hid (modNat_nm qQ pQ rQ nQ q v102 (MQ.out.still A_b.out))
    go_wp2_with fail
    refine C103.out.mono ?_
    rintro e v103 ⟨rfl, h, hk⟩
    obtain ⟨X6, hX6⟩ : ∃ X6, v102.heap.size + 1 = X6 := ⟨_, rfl⟩
    rw [hX6] at h ⊢
    have LB_X6 : Hid (b.heap.size < X6) := Lib.hid (by have := A_b.out.size; omega)
    have NE_Xm_X6 : Hid (nXm ≠ X6) := Lib.hid (by have := F_Xm.out.ltq; omega)
    have NE_P3_X6 : Hid (P3 ≠ X6) := Lib.hid (by have := F_P3.out.lt; omega)
    have NE_X6_P3 : Hid (X6 ≠ P3) := Lib.hid NE_P3_X6.out.symm
    have NE_Ym_X6 : Hid (nYm ≠ X6) := Lib.hid (by have := F_Ym.out.ltq; omega)
    have NE_P5_X6 : Hid (P5 ≠ X6) := Lib.hid (by have := F_P5.out.lt; omega)
    have NE_X6_P5 : Hid (X6 ≠ P5) := Lib.hid NE_P5_X6.out.symm
    have NE_P7_X6 : Hid (P7 ≠ X6) := Lib.hid (by have := F_P7.out.lt; omega)
    have NE_X6_P7 : Hid (X6 ≠ P7) := Lib.hid NE_P7_X6.out.symm
    replace F_Xm := Lib.hid (F_Xm.out.still hk)
    replace F_P3 := Lib.hid (F_P3.out.still hk)
    replace F_Ym := Lib.hid (F_Ym.out.still hk)
    replace F_P5 := Lib.hid (F_P5.out.still hk)
    replace F_P7 := Lib.hid (F_P7.out.still hk)
    replace A_b := Lib.hid (A_b.out.none hk)
    have F_X6 := Lib.hid h
    clear h hk C103 hX6
    have C104 := Lib.hid (mod_nm P7 X6 qP pP rP 0 0 nQ q nP p v103 F_P7.out F_X6.out (MP.out.still A_b.out) (by have := LB_P7.out; have := BL.out; omega) (by have := LB_P7.out; have := BL.out; omega) NE_X6_P7.out)
    go_wp2_with fail
    refine C104.out.mono ?_
    rintro e v104 ⟨rfl, h, hk⟩
    have F_Xm_ := F_Xm.out.away F_P7.out NE_Xm_P7.out NE_Xm_P7.out hk
    have F_P3_ := F_P3.out.away F_P7.out NE_P3_P7.out hk
    have F_Ym_ := F_Ym.out.away F_P7.out NE_Ym_P7.out NE_Ym_P7.out hk
    have F_P5_ := F_P5.out.away F_P7.out NE_P5_P7.out hk
    have F_X6_ := F_X6.out.away F_P7.out NE_X6_P7.out hk
    replace F_Xm := Lib.hid F_Xm_
    replace F_P3 := Lib.hid F_P3_
    replace F_Ym := Lib.hid F_Ym_
    replace F_P5 := Lib.hid F_P5_
    replace F_X6 := Lib.hid F_X6_
    clear F_Xm_ F_P3_ F_Ym_ F_P5_ F_X6_
    replace A_b := Lib.hid (At2.new A_b.out hk LB_P7.out)
    replace F_P7 := Lib.hid h
    clear h hk C104
    clear F_X6
    have c7 : v104.cell? ⟨pk, 7, none⟩ = some (.pointer (some ⟨bi, 0, none⟩)) := (PB.out.kept A_b.out (fun e => e)).cellIs rfl
    have h := mulOdd_nm P7 bi qP pP rP nP p (q % p) qi v104 F_P7.out (NI.out.still A_b.out) (MP.out.still A_b.out) KN.out.po (by have := LB_P7.out; have := BL.out; omega) (Nat.mod_lt _ (by have := KN.out.p3; omega))
    rw [KN.out.inv] at h
    have C105 := Lib.hid h
    clear h
    go_wp2_with fail
    refine C105.out.mono ?_
    rintro e v105 ⟨rfl, h, hk⟩
    have F_Xm_ := F_Xm.out.away F_P7.out NE_Xm_P7.out NE_Xm_P7.out hk
    have F_P3_ := F_P3.out.away F_P7.out NE_P3_P7.out hk
    have F_Ym_ := F_Ym.out.away F_P7.out NE_Ym_P7.out NE_Ym_P7.out hk
    have F_P5_ := F_P5.out.away F_P7.out NE_P5_P7.out hk
    replace F_Xm := Lib.hid F_Xm_
    replace F_P3 := Lib.hid F_P3_
    replace F_Ym := Lib.hid F_Ym_
    replace F_P5 := Lib.hid F_P5_
    clear F_Xm_ F_P3_ F_Ym_ F_P5_
    replace A_b := Lib.hid (At2.new A_b.out hk LB_P7.out)
    replace F_P7 := Lib.hid h
    clear h hk C105
    clear c7
    have h := isOne_nm P7 nP 1 v105 F_P7.out MP.out.2.1
    rw [show ((bitN (decide (1 = 1)) : Nat) : Int) = 1 from rfl] at h
    have C106 := Lib.hid h
    clear h
    go_wp2_with fail
    refine C106.out.mono ?_
    rintro e w' ⟨rfl, rfl⟩
    clear C106
    clear F_P7
    have c2 : v105.cell? ⟨pk, 2, none⟩ = some (.pointer (some ⟨bd, 0, none⟩)) := (PB.out.kept A_b.out (fun e => e)).cellIs rfl
    have hkb2 : pk < v105.heap.size := Nat.lt_of_lt_of_le BL.out.2.2.2 A_b.out.size
    go_wp2_with fail
    go_region_held3 (fun w' => w'.cell? ⟨pk, 2, none⟩ = some (.pointer (some ⟨bd, 0, none⟩))) (go_keep) (first | (go_at_call 41; refine (newNat_nm _).mono ?_; rintro e v107 ⟨rfl, h', hk'⟩; have hk : Kept NoBlk v105 v107 := ((Kept.refl NoBlk v105).drew).trans hk'; have h : Nm v107 (v105.heap.size + 1) 0 0 := h'; clear h' hk'; have cA2 : v107.cell? ⟨pk, 2, none⟩ = some (.pointer (some ⟨bd, 0, none⟩)) := (hk.cell (p := ⟨pk, 2, none⟩) hkb2 (fun e => e)).trans c2; obtain ⟨P8, hP8⟩ : ∃ P8, v105.heap.size + 1 = P8 := ⟨_, rfl⟩; rw [show v105.drew.heap.size = v105.heap.size from rfl, hP8]; rw [hP8] at h; have LB_P8 : Hid (b.heap.size < P8) := Lib.hid (by have := A_b.out.size; omega); have NE_Xm_P8 : Hid (nXm ≠ P8) := Lib.hid (by have := F_Xm.out.ltq; omega); have NE_P3_P8 : Hid (P3 ≠ P8) := Lib.hid (by have := F_P3.out.lt; omega); have NE_P8_P3 : Hid (P8 ≠ P3) := Lib.hid NE_P3_P8.out.symm; have NE_Ym_P8 : Hid (nYm ≠ P8) := Lib.hid (by have := F_Ym.out.ltq; omega); have NE_P5_P8 : Hid (P5 ≠ P8) := Lib.hid (by have := F_P5.out.lt; omega); have NE_P8_P5 : Hid (P8 ≠ P5) := Lib.hid NE_P5_P8.out.symm; replace F_Xm := Lib.hid (F_Xm.out.still hk); replace F_P3 := Lib.hid (F_P3.out.still hk); replace F_Ym := Lib.hid (F_Ym.out.still hk); replace F_P5 := Lib.hid (F_P5.out.still hk); replace A_b := Lib.hid (A_b.out.none hk); have F_P8 := Lib.hid h; clear h hk hP8) | (go_at_call 59; have h := mod_nm P8 bd qXm nXm nXm 0 0 nN d lXm (p - 1) _ F_P8.out (ND.out.still A_b.out) F_Xm.out NE_Xm_P8.out NE_Xm_P8.out (by have := LB_P8.out; have := ND.out.lt; omega); rw [KN.out.dpd] at h; have CC := Lib.hid h; clear h; refine CC.out.mono ?_; rintro e v108 ⟨rfl, h, hk⟩; have cB2 : v108.cell? ⟨pk, 2, none⟩ = some (.pointer (some ⟨bd, 0, none⟩)) := (hk.cell (p := ⟨pk, 2, none⟩) (Nat.lt_of_lt_of_le BL.out.2.2.2 A_b.out.size) (show ¬ At2 P8 pk from fun e => by unfold At2 at e; have := LB_P8.out; have := BL.out; omega)).trans cA2; have F_Xm_ := F_Xm.out.away F_P8.out NE_Xm_P8.out NE_Xm_P8.out hk; have F_P3_ := F_P3.out.away F_P8.out NE_P3_P8.out hk; have F_Ym_ := F_Ym.out.away F_P8.out NE_Ym_P8.out NE_Ym_P8.out hk; have F_P5_ := F_P5.out.away F_P8.out NE_P5_P8.out hk; replace F_Xm := Lib.hid F_Xm_; replace F_P3 := Lib.hid F_P3_; replace F_Ym := Lib.hid F_Ym_; replace F_P5 := Lib.hid F_P5_; clear F_Xm_ F_P3_ F_Ym_ F_P5_; replace A_b := Lib.hid (At2.new A_b.out hk LB_P8.out); replace F_P8 := Lib.hid h; clear h hk CC))
    clear c2 cA2 cB2 hkb2
    have h := equal_nm P8 P3 lXm dp dp v108 F_P8.out F_P3.out
    rw [show ((bitN (decide (dp = dp)) : Nat) : Int) = 1 by rw [decide_eq_true rfl]; rfl] at h
    have C109 := Lib.hid h
    clear h
    go_wp2_with fail
    refine C109.out.mono ?_
    rintro e v109 ⟨rfl, hk⟩
    replace F_Xm := Lib.hid (F_Xm.out.still hk)
    replace F_P3 := Lib.hid (F_P3.out.still hk)
    replace F_Ym := Lib.hid (F_Ym.out.still hk)
    replace F_P5 := Lib.hid (F_P5.out.still hk)
    replace F_P8 := Lib.hid (F_P8.out.still hk)
    replace A_b := Lib.hid (A_b.out.none hk)
    clear hk C109
    clear F_P8 F_P3 F_Xm
    have c2 : v109.cell? ⟨pk, 2, none⟩ = some (.pointer (some ⟨bd, 0, none⟩)) := (PB.out.kept A_b.out (fun e => e)).cellIs rfl
    have hkb2 : pk < v109.heap.size := Nat.lt_of_lt_of_le BL.out.2.2.2 A_b.out.size
    go_wp2_with fail
    go_region_held3 (fun w' => w'.cell? ⟨pk, 2, none⟩ = some (.pointer (some ⟨bd, 0, none⟩))) (go_keep) (first | (go_at_call 41; refine (newNat_nm _).mono ?_; rintro e v110 ⟨rfl, h', hk'⟩; have hk : Kept NoBlk v109 v110 := ((Kept.refl NoBlk v109).drew).trans hk'; have h : Nm v110 (v109.heap.size + 1) 0 0 := h'; clear h' hk'; have cA2 : v110.cell? ⟨pk, 2, none⟩ = some (.pointer (some ⟨bd, 0, none⟩)) := (hk.cell (p := ⟨pk, 2, none⟩) hkb2 (fun e => e)).trans c2; obtain ⟨P9, hP9⟩ : ∃ P9, v109.heap.size + 1 = P9 := ⟨_, rfl⟩; rw [show v109.drew.heap.size = v109.heap.size from rfl, hP9]; rw [hP9] at h; have LB_P9 : Hid (b.heap.size < P9) := Lib.hid (by have := A_b.out.size; omega); have NE_Ym_P9 : Hid (nYm ≠ P9) := Lib.hid (by have := F_Ym.out.ltq; omega); have NE_P5_P9 : Hid (P5 ≠ P9) := Lib.hid (by have := F_P5.out.lt; omega); have NE_P9_P5 : Hid (P9 ≠ P5) := Lib.hid NE_P5_P9.out.symm; replace F_Ym := Lib.hid (F_Ym.out.still hk); replace F_P5 := Lib.hid (F_P5.out.still hk); replace A_b := Lib.hid (A_b.out.none hk); have F_P9 := Lib.hid h; clear h hk hP9) | (go_at_call 59; have h := mod_nm P9 bd qYm nYm nYm 0 0 nN d lYm (q - 1) _ F_P9.out (ND.out.still A_b.out) F_Ym.out NE_Ym_P9.out NE_Ym_P9.out (by have := LB_P9.out; have := ND.out.lt; omega); rw [KN.out.dqd] at h; have CC := Lib.hid h; clear h; refine CC.out.mono ?_; rintro e v111 ⟨rfl, h, hk⟩; have cB2 : v111.cell? ⟨pk, 2, none⟩ = some (.pointer (some ⟨bd, 0, none⟩)) := (hk.cell (p := ⟨pk, 2, none⟩) (Nat.lt_of_lt_of_le BL.out.2.2.2 A_b.out.size) (show ¬ At2 P9 pk from fun e => by unfold At2 at e; have := LB_P9.out; have := BL.out; omega)).trans cA2; have F_Ym_ := F_Ym.out.away F_P9.out NE_Ym_P9.out NE_Ym_P9.out hk; have F_P5_ := F_P5.out.away F_P9.out NE_P5_P9.out hk; replace F_Ym := Lib.hid F_Ym_; replace F_P5 := Lib.hid F_P5_; clear F_Ym_ F_P5_; replace A_b := Lib.hid (At2.new A_b.out hk LB_P9.out); replace F_P9 := Lib.hid h; clear h hk CC))
    clear c2 cA2 cB2 hkb2
    have h := equal_nm P9 P5 lYm dq dq v111 F_P9.out F_P5.out
    rw [show ((bitN (decide (dq = dq)) : Nat) : Int) = 1 by rw [decide_eq_true rfl]; rfl] at h
    have C112 := Lib.hid h
    clear h
    go_wp2_with fail
    refine C112.out.mono ?_
    rintro e v112 ⟨rfl, hk⟩
    replace F_Ym := Lib.hid (F_Ym.out.still hk)
    replace F_P5 := Lib.hid (F_P5.out.still hk)
    replace F_P9 := Lib.hid (F_P9.out.still hk)
    replace A_b := Lib.hid (A_b.out.none hk)
    clear hk C112
    clear F_P9 F_P5 F_Ym
    have C113 := Lib.hid (newNat_nm v112)
    go_wp2_with fail
    refine C113.out.mono ?_
    rintro e v113 ⟨rfl, h, hk⟩
    obtain ⟨P10, hP10⟩ : ∃ P10, v112.heap.size + 1 = P10 := ⟨_, rfl⟩
    rw [hP10] at h ⊢
    have LB_P10 : Hid (b.heap.size < P10) := Lib.hid (by have := A_b.out.size; omega)
    replace A_b := Lib.hid (A_b.out.none hk)
    have F_P10 := Lib.hid h
    clear h hk C113 hP10
    have C114 := Lib.hid (newNat_nm v113)
    go_wp2_with fail
    refine C114.out.mono ?_
    rintro e v114 ⟨rfl, h, hk⟩
    obtain ⟨P11, hP11⟩ : ∃ P11, v113.heap.size + 1 = P11 := ⟨_, rfl⟩
    rw [hP11] at h ⊢
    have LB_P11 : Hid (b.heap.size < P11) := Lib.hid (by have := A_b.out.size; omega)
    have NE_P10_P11 : Hid (P10 ≠ P11) := Lib.hid (by have := F_P10.out.lt; omega)
    have NE_P11_P10 : Hid (P11 ≠ P10) := Lib.hid NE_P10_P11.out.symm
    replace F_P10 := Lib.hid (F_P10.out.still hk)
    replace A_b := Lib.hid (A_b.out.none hk)
    have F_P11 := Lib.hid h
    clear h hk C114 hP11
    have C115 := Lib.hid (modNat_nm qQ pQ rQ nQ q v114 (MQ.out.still A_b.out))
    go_wp2_with fail
    refine C115.out.mono ?_
    rintro e v115 ⟨rfl, h, hk⟩
    obtain ⟨X7, hX7⟩ : ∃ X7, v114.heap.size + 1 = X7 := ⟨_, rfl⟩
    rw [hX7] at h ⊢
    have LB_X7 : Hid (b.heap.size < X7) := Lib.hid (by have := A_b.out.size; omega)
    have NE_P10_X7 : Hid (P10 ≠ X7) := Lib.hid (by have := F_P10.out.lt; omega)
    have NE_X7_P10 : Hid (X7 ≠ P10) := Lib.hid NE_P10_X7.out.symm
    have NE_P11_X7 : Hid (P11 ≠ X7) := Lib.hid (by have := F_P11.out.lt; omega)
    have NE_X7_P11 : Hid (X7 ≠ P11) := Lib.hid NE_P11_X7.out.symm
    replace F_P10 := Lib.hid (F_P10.out.still hk)
    replace F_P11 := Lib.hid (F_P11.out.still hk)
    replace A_b := Lib.hid (A_b.out.none hk)
    have F_X7 := Lib.hid h
    clear h hk C115 hX7
    have C116 := Lib.hid (bytes_nm X7 qQ pQ rQ nQ q q SQ v115 F_X7.out (MQ.out.still A_b.out) HSQ.out (LTQ.out _ (Nat.le_refl _)))
    go_wp2_with fail
    refine C116.out.mono ?_
    rintro e v116 ⟨rfl, h, hk⟩
    obtain ⟨gY7, hgY7⟩ : ∃ gY7, v115.heap.size = gY7 := ⟨_, rfl⟩
    rw [hgY7] at h ⊢
    replace F_P10 := Lib.hid (F_P10.out.still hk)
    replace F_P11 := Lib.hid (F_P11.out.still hk)
    replace F_X7 := Lib.hid (F_X7.out.still hk)
    replace A_b := Lib.hid (A_b.out.none hk)
    have F_Y7 := Lib.hid h.bytes
    clear h hk C116 hgY7
    have h := setBytes_no P11 qP pP rP _ _ nP p (some ⟨gY7, 0, none⟩) SQ (enc SQ q) v116 F_P11.out (MP.out.still A_b.out) (by have := LB_P11.out; have := BL.out; omega) (by have := LB_P11.out; have := BL.out; omega) F_Y7.out (off_bytes F_P11.out F_Y7.out) (by rw [enc_length]; exact Nat.le_refl _) (by rw [enc_length]; have := SZ.out; omega) (.inl (by rw [ENQ.out _ (Nat.le_refl _)]; exact Nat.le_of_lt hq2))
    rw [enc_length] at h
    have C117 := Lib.hid h
    clear h
    go_wp2_with fail
    refine C117.out.mono ?_
    rintro e v117 ⟨ae2, z2, rfl, hz2, hk⟩
    have F_P10_ := F_P10.out.away F_P11.out NE_P10_P11.out hk
    have F_X7_ := F_X7.out.away F_P11.out NE_X7_P11.out hk
    have F_Y7_ := F_Y7.out.at2 hk (off_bytes F_P11.out F_Y7.out)
    replace F_P10 := Lib.hid F_P10_
    replace F_X7 := Lib.hid F_X7_
    replace F_Y7 := Lib.hid F_Y7_
    clear F_P10_ F_X7_ F_Y7_
    replace A_b := Lib.hid (At2.new A_b.out hk LB_P11.out)
    clear hk C117 hz2
    clear F_X7 F_Y7 F_P11
    have C118 := Lib.hid (newNat_nm v117)
    go_wp2_with fail
    refine C118.out.mono ?_
    rintro e v118 ⟨rfl, h, hk⟩
    obtain ⟨P12, hP12⟩ : ∃ P12, v117.heap.size + 1 = P12 := ⟨_, rfl⟩
    rw [hP12] at h ⊢
    have LB_P12 : Hid (b.heap.size < P12) := Lib.hid (by have := A_b.out.size; omega)
    have NE_P10_P12 : Hid (P10 ≠ P12) := Lib.hid (by have := F_P10.out.lt; omega)
    have NE_P12_P10 : Hid (P12 ≠ P10) := Lib.hid NE_P10_P12.out.symm
    replace F_P10 := Lib.hid (F_P10.out.still hk)
    replace A_b := Lib.hid (A_b.out.none hk)
    have F_P12 := Lib.hid h
    clear h hk C118 hP12
    have C119 := Lib.hid (modNat_nm qP pP rP nP p v118 (MP.out.still A_b.out))
    go_wp2_with fail
    refine C119.out.mono ?_
    rintro e v119 ⟨rfl, h, hk⟩
    obtain ⟨X8, hX8⟩ : ∃ X8, v118.heap.size + 1 = X8 := ⟨_, rfl⟩
    rw [hX8] at h ⊢
    have LB_X8 : Hid (b.heap.size < X8) := Lib.hid (by have := A_b.out.size; omega)
    have NE_P10_X8 : Hid (P10 ≠ X8) := Lib.hid (by have := F_P10.out.lt; omega)
    have NE_X8_P10 : Hid (X8 ≠ P10) := Lib.hid NE_P10_X8.out.symm
    have NE_P12_X8 : Hid (P12 ≠ X8) := Lib.hid (by have := F_P12.out.lt; omega)
    have NE_X8_P12 : Hid (X8 ≠ P12) := Lib.hid NE_P12_X8.out.symm
    replace F_P10 := Lib.hid (F_P10.out.still hk)
    replace F_P12 := Lib.hid (F_P12.out.still hk)
    replace A_b := Lib.hid (A_b.out.none hk)
    have F_X8 := Lib.hid h
    clear h hk C119 hX8
    have C120 := Lib.hid (bytes_nm X8 qP pP rP nP p p SP v119 F_X8.out (MP.out.still A_b.out) HSP.out (LTP.out _ (Nat.le_refl _)))
    go_wp2_with fail
    refine C120.out.mono ?_
    rintro e v120 ⟨rfl, h, hk⟩
    obtain ⟨gY8, hgY8⟩ : ∃ gY8, v119.heap.size = gY8 := ⟨_, rfl⟩
    rw [hgY8] at h ⊢
    replace F_P10 := Lib.hid (F_P10.out.still hk)
    replace F_P12 := Lib.hid (F_P12.out.still hk)
    replace F_X8 := Lib.hid (F_X8.out.still hk)
    replace A_b := Lib.hid (A_b.out.none hk)
    have F_Y8 := Lib.hid h.bytes
    clear h hk C120 hgY8
    have h := setBytes_yes P12 qQ pQ rQ _ _ nQ q (some ⟨gY8, 0, none⟩) SP (enc SP p) v120 F_P12.out (MQ.out.still A_b.out) (by have := LB_P12.out; have := BL.out; omega) (by have := LB_P12.out; have := BL.out; omega) F_Y8.out (off_bytes F_P12.out F_Y8.out) (by rw [enc_length]; exact Nat.le_refl _) (by rw [enc_length]; have := SZ.out; omega) (by rw [ENP.out _ (Nat.le_refl _)]; exact hq2) (by rw [enc_length]; exact (by rw [← HSP.out]; exact Nat.le_trans hq3 MQ.out.bytes_le))
    rw [enc_length, ENP.out _ (Nat.le_refl _)] at h
    have C121 := Lib.hid h
    clear h
    go_wp2_with fail
    refine C121.out.mono ?_
    rintro e v121 ⟨rfl, h, hk⟩
    have F_P10_ := F_P10.out.away F_P12.out NE_P10_P12.out hk
    have F_X8_ := F_X8.out.away F_P12.out NE_X8_P12.out hk
    have F_Y8_ := F_Y8.out.at2 hk (off_bytes F_P12.out F_Y8.out)
    replace F_P10 := Lib.hid F_P10_
    replace F_X8 := Lib.hid F_X8_
    replace F_Y8 := Lib.hid F_Y8_
    clear F_P10_ F_X8_ F_Y8_
    replace A_b := Lib.hid (At2.new A_b.out hk LB_P12.out)
    replace F_P12 := Lib.hid h
    clear h hk C121
    clear F_X8 F_Y8
    have C122 := Lib.hid (expandFor_nm P10 qQ pQ rQ 0 0 nQ q v121 F_P10.out (MQ.out.still A_b.out) (Nat.zero_le _))
    go_wp2_with fail
    refine C122.out.mono ?_
    rintro e v122 ⟨rfl, h, hk⟩
    have F_P12_ := F_P12.out.away F_P10.out NE_P12_P10.out hk
    replace F_P12 := Lib.hid F_P12_
    clear F_P12_
    replace A_b := Lib.hid (At2.new A_b.out hk LB_P10.out)
    replace F_P10 := Lib.hid h
    clear h hk C122
    have h := sub_nm P10 P12 qQ pQ rQ nQ q 0 p v122 F_P10.out F_P12.out (MQ.out.still A_b.out) (by have := LB_P10.out; have := BL.out; omega) NE_P10_P12.out (by have := KN.out.q3; omega) hq2
    rw [show (0 + q - p) % q = q - p by rw [Nat.zero_add]; exact Nat.mod_eq_of_lt (by have := KN.out.p3; omega)] at h
    have C123 := Lib.hid h
    clear h
    go_wp2_with fail
    refine C123.out.mono ?_
    rintro e v123 ⟨rfl, h, hk⟩
    have F_P12_ := F_P12.out.away F_P10.out NE_P12_P10.out hk
    replace F_P12 := Lib.hid F_P12_
    clear F_P12_
    replace A_b := Lib.hid (At2.new A_b.out hk LB_P10.out)
    replace F_P10 := Lib.hid h
    clear h hk C123
    have h := bitLenVar_nm P10 nQ (q - p) v123 F_P10.out
    rw [show bitLen (q - p) = bf by rw [← HBF.out]; congr 1; omega] at h
    have C124 := Lib.hid h
    clear h
    go_wp2_with fail
    refine C124.out.mono ?_
    rintro e w' ⟨rfl, rfl⟩
    clear C124
    have h := bitLen_md qN pN rN nN m v123 (MN.out.still A_b.out)
    rw [HBM.out] at h
    have C125 := Lib.hid h
    clear h
    go_wp2_with fail
    refine C125.out.mono ?_
    rintro e w' ⟨rfl, rfl⟩
    clear C125
    have far := FAR.out
    have bms := BMS.out.1
    have bmt := BMS.out.2
    have big := BIG.out
    have tdv : (bm : Int).tdiv 2 = (bm : Int) / 2 := Int.tdiv_eq_ediv_of_nonneg bms
    have c2 : v123.cell? ⟨pk, 2, none⟩ = some (.pointer (some ⟨bd, 0, none⟩)) := (PB.out.kept A_b.out (fun e => e)).cellIs rfl
    have h := bitLenVar_nm bd nN d v123 (ND.out.still A_b.out)
    rw [HBD.out] at h
    have C126 := Lib.hid h
    clear h
    go_wp2_with fail
    refine C126.out.mono ?_
    rintro e w' ⟨rfl, rfl⟩
    clear C126
    have h := bitLen_md qN pN rN nN m v123 (MN.out.still A_b.out)
    rw [HBM.out] at h
    have C127 := Lib.hid h
    clear h
    go_wp2_with fail
    refine C127.out.mono ?_
    rintro e w' ⟨rfl, rfl⟩
    clear C127
    have FIN : Hid (Kept NoBlk w0 v123 ∧ Blk v123 pk 80 #[.pointer (some ⟨qN, 0, none⟩), .int .i64 (e : Int), .pointer (some ⟨bd, 0, none⟩), .pointer (some ⟨qP, 0, none⟩), .pointer (some ⟨qQ, 0, none⟩), .slice (some aP) bP.length cP, .slice (some aQ) bQ.length cQ, .pointer (some ⟨bi, 0, none⟩), .bool false]) := Lib.hid ⟨HKb.out.none A_b.out, PB.out.kept A_b.out (fun e => e)⟩
    go_wp2_with fail
    go_ret
    exact ⟨rfl, FIN.out⟩

end Go.Proofs.YtdmpiecdpdknaaaGreatDoor
