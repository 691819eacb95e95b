/-
  rsa.NewPrivateKeyWithPrecomputation (printed by gen_pre.py).
-/
import Derived.Test.YtdmpiecdpdknaaaDoorPriv3
namespace Go.Proofs.YtdmpiecdpdknaaaDoor
open Go.RowKit

set_option maxHeartbeats 1600000 in
set_option maxRecDepth 20000 in
theorem newPrivPre_any (w : World) (aN aD aP aQ aI : Option Addr) (gU gV : Nat) (cN cD cP cQ cU cV cI : Nat) (bN bP bQ : List UInt8) (m e d p q dp dq qi : Nat)
    (hN : BytesAt w aN bN) (hD : BytesAt w aD (encT d)) (hP : BytesAt w aP bP) (hQ : BytesAt w aQ bQ) (hU : BytesAt w (some ⟨gU, 0, none⟩) (enc ((bitLen (p - 1) + 7) / 8) dp)) (hV : BytesAt w (some ⟨gV, 0, none⟩) (enc ((bitLen (q - 1) + 7) / 8) dq)) (hI : BytesAt w aI (enc ((bitLen p + 7) / 8) qi))
    (lN : bN.length ≤ 256) (lP : bP.length ≤ 256) (lQ : bQ.length ≤ 256) (kN : bN.length ≤ cN) (kD : (encT d).length ≤ cD) (kP : bP.length ≤ cP) (kQ : bQ.length ≤ cQ) (kU : ((bitLen (p - 1) + 7) / 8) ≤ cU) (kV : ((bitLen (q - 1) + 7) / 8) ≤ cV) (kI : ((bitLen p + 7) / 8) ≤ cI)
    (vN : num bN = m) (vP : num bP = p) (vQ : num bQ = q) (lD : (encT d).length ≤ 256) (K : KeyN m e d p q dp dq qi) :
    Calls Tryd.prog 29 #[.slice aN bN.length cN, .int .i64 (e : Int), .slice aD (encT d).length cD, .slice aP bP.length cP, .slice aQ bQ.length cQ, .slice (some ⟨gU, 0, none⟩) ((bitLen (p - 1) + 7) / 8) cU, .slice (some ⟨gV, 0, none⟩) ((bitLen (q - 1) + 7) / 8) cV, .slice aI ((bitLen p + 7) / 8) cI] w (PrivOut m e d p q dp dq qi w) := by
  have m1 : 1 < m := by have := K.pm; have := K.p3; omega
  have p1 : 1 < p := by have := K.p3; omega
  have q1 : 1 < q := by have := K.q3; omega
  have C1 := Lib.hid (newMod_md aN cN bN w hN hN.below kN lN (by rw [vN]; exact m1))
  obtain ⟨S1, hS1⟩ : ∃ S1, ((bitLen (p - 1) + 7) / 8) = S1 := ⟨_, rfl⟩
  obtain ⟨S2, hS2⟩ : ∃ S2, ((bitLen (q - 1) + 7) / 8) = S2 := ⟨_, rfl⟩
  obtain ⟨SP, hSP⟩ : ∃ SP, ((bitLen p + 7) / 8) = SP := ⟨_, rfl⟩
  have dpl : dp ≤ p - 1 := by have := K.p3; rw [← K.dpd]; exact Nat.le_of_lt (Nat.mod_lt _ (by omega))
  have dql : dq ≤ q - 1 := by have := K.q3; rw [← K.dqd]; exact Nat.le_of_lt (Nat.mod_lt _ (by omega))
  have EN1 : Hid (num (enc S1 dp) = dp) := Lib.hid (by rw [← hS1]; exact encNum dpl)
  have EN2 : Hid (num (enc S2 dq) = dq) := Lib.hid (by rw [← hS2]; exact encNum dql)
  have ENI : Hid (num (enc SP qi) = qi) := Lib.hid (by rw [← hSP]; exact encNum (Nat.le_of_lt K.qip))
  have SZP : Hid (SP ≤ 75) := Lib.hid (by have := K.pb; omega)
  have HS1 := Lib.hid hS1
  have HS2 := Lib.hid hS2
  have HSP := Lib.hid hSP
  rw [hS1] at hU kU ⊢
  rw [hS2] at hV kV ⊢
  rw [hSP] at hI kI ⊢
  have HD := Lib.hid hD
  have HP := Lib.hid hP
  have HQ := Lib.hid hQ
  have HU := Lib.hid hU
  have HVV := Lib.hid hV
  have HI := Lib.hid hI
  have KN := Lib.hid K
  have VN := Lib.hid vN
  have VP := Lib.hid vP
  have VQ := Lib.hid vQ
  clear hN hD hP hQ hU hV hI K vN vP vQ hS1 hS2 hSP dpl dql
  go_enter Tryd.func29, Tryd.ntmps29
  go_wp2_with fail
  refine C1.out.mono ?_
  rintro x w1 ⟨qN, pN, rN, nN, rfl, _, _, _, hm1, k1⟩
  rw [VN.out] at hm1
  have hp1 := HP.out.still k1
  have C2 := Lib.hid (newMod_md aP cP bP w1 hp1 hp1.below kP lP (by rw [VP.out]; exact p1))
  have M1 := Lib.hid hm1
  have K1 := Lib.hid k1
  clear hm1 k1 hp1 C1
  go_wp2_with fail
  refine C2.out.mono ?_
  rintro x w2 ⟨qP, pP, rP, nP, rfl, _, _, _, hm2, k2⟩
  rw [VP.out] at hm2
  have hq2 := HQ.out.still (K1.out.none k2)
  have C3 := Lib.hid (newMod_md aQ cQ bQ w2 hq2 hq2.below kQ lQ (by rw [VQ.out]; exact q1))
  have M2 := Lib.hid hm2
  have M12 := Lib.hid (M1.out.still k2)
  have K2 := Lib.hid (K1.out.none k2)
  clear hm2 k2 hq2 C2 M1 K1
  go_wp2_with fail
  refine C3.out.mono ?_
  rintro x w3 ⟨qQ, pQ, rQ, nQ, rfl, _, _, _, hm3, k3⟩
  rw [VQ.out] at hm3
  have M3 := Lib.hid hm3
  have M23 := Lib.hid (M2.out.still k3)
  have M13 := Lib.hid (M12.out.still k3)
  have K3 := Lib.hid (K2.out.none k3)
  clear hm3 k3 C3 M2 M12 K2
  go_wp2_with fail
  refine (newNat_nm w3).mono ?_
  rintro x w4 ⟨rfl, h4, k4⟩
  have hd4 := HD.out.still (K3.out.none k4)
  have hm4 := M13.out.still k4
  have hlt := M13.out.ltq
  have hlr := M13.out.ltr KN.out.mo
  have h := setBytes_yes (w3.heap.size + 1) qN pN rN 0 0 nN m aD cD (encT d) w4 h4 hm4 (by omega) (by omega) hd4 (off_bytes h4 hd4) kD (by omega) (by rw [num_encT]; exact KN.out.dm) (encT_len8 hm4 KN.out.dm)
  rw [num_encT] at h
  have C5 := Lib.hid h
  have K4 := Lib.hid k4
  clear h4 k4 hd4 hm4 hlt hlr h
  go_wp2_with fail
  refine C5.out.mono ?_
  rintro x w5 ⟨rfl, h5, k5⟩
  obtain ⟨bd, hbd⟩ : ∃ bd, w3.heap.size + 1 = bd := ⟨_, rfl⟩
  rw [hbd] at h5 k5 ⊢
  have k35 : Kept NoBlk w3 w5 := At2.new K4.out k5 (by omega)
  have H5 := Lib.hid h5
  have K35 := Lib.hid k35
  clear h5 k5 k35 C5 K4
  go_wp2_with fail
  refine (newNat_nm w5).mono ?_
  rintro x w6 ⟨rfl, h6, k6⟩
  obtain ⟨bi, hbi⟩ : ∃ bi, w5.heap.size + 1 = bi := ⟨_, rfl⟩
  rw [hbi] at h6 ⊢
  have hd6 := HI.out.still (K3.out.none (K35.out.none k6))
  have hm6 := M23.out.still (K35.out.none k6)
  have hlt := M23.out.ltq
  have hlr := M23.out.ltr KN.out.po
  have hsz := K35.out.size
  have hb5 := H5.out.lt
  have NE : Hid (bd ≠ bi) := Lib.hid (by omega)
  have h := setBytes_yes bi qP pP rP 0 0 nP p aI cI (enc SP qi) w6 h6 hm6 (by omega) (by omega) hd6 (off_bytes h6 hd6) (by rw [enc_length]; exact kI) (by rw [enc_length]; have := SZP.out; omega) (by rw [ENI.out]; exact KN.out.qip) (by rw [enc_length, ← HSP.out]; exact hm6.bytes_le)
  rw [ENI.out, enc_length] at h
  have C6 := Lib.hid h
  have K6 := Lib.hid k6
  have H6 := Lib.hid (H5.out.still k6)
  have HI6 := Lib.hid h6
  have LBI : Hid (w5.heap.size < bi) := Lib.hid (by omega)
  clear h6 k6 hd6 hm6 hlt hlr h hsz hb5 H5 hbi hbd
  go_wp2_with fail
  refine C6.out.mono ?_
  rintro x w7 ⟨rfl, h7, k7⟩
  have hd7 := H6.out.away HI6.out NE.out k7
  have k57 : Kept NoBlk w5 w7 := At2.new K6.out k7 LBI.out
  have HD7 := Lib.hid hd7
  have HI7 := Lib.hid h7
  have k37 : Kept NoBlk w3 w7 := K35.out.none k57
  have hbk := Blk.new w7 75 #[.pointer (some ⟨qN, 0, none⟩), .int .i64 (e : Int), .pointer (some ⟨bd, 0, none⟩), .pointer (some ⟨qP, 0, none⟩), .pointer (some ⟨qQ, 0, none⟩), .slice (some ⟨gU, 0, none⟩) (enc S1 dp).length cU, .slice (some ⟨gV, 0, none⟩) (enc S2 dq).length cV, .pointer (some ⟨bi, 0, none⟩), .bool false]
  have M7 := Lib.hid (M13.out.still k37)
  have M8 := Lib.hid (M23.out.still k37)
  have M9 := Lib.hid (M3.out.still k37)
  have U7 := Lib.hid (HU.out.still (K3.out.none k37))
  have V7 := Lib.hid (HVV.out.still (K3.out.none k37))
  have hck := checkPriv_nm w7 _ w7.heap.size qN pN rN nN qP pP rP nP qQ pQ rQ nQ bd bi ⟨gU, 0, none⟩ ⟨gV, 0, none⟩ cU cV (enc S1 dp) (enc S2 dq) false m e d p q dp dq qi ((Kept.refl _ w7).alloc _) (Nat.le_refl _) hbk M7.out M8.out M9.out HD7.out HI7.out U7.out V7.out (by rw [enc_length]; exact kU) (by rw [enc_length]; exact kV) EN1.out EN2.out (by rw [enc_length, HS1.out]; exact Nat.le_refl _) (by rw [enc_length, HS2.out]; exact Nat.le_refl _) KN.out
  rw [enc_length, enc_length] at hck
  have CK := Lib.hid hck
  have K7 := Lib.hid (K3.out.none k37)
  clear hck hbk hd7 h7 k57 k37 k7 C6 H6 HI6 K6 K35 K3 M13 M23 M3
  go_wp2_with fail
  refine CK.out.mono ?_
  rintro x w9 ⟨rfl, k9, hb9⟩
  have FIN : Hid (PrivOut m e d p q dp dq qi w (.returned (.tuple #[.pointer (some ⟨w7.heap.size, 0, none⟩), .nilIface])) w9) := Lib.hid ⟨_, rfl, ⟨qN, pN, rN, nN, qP, pP, rP, nP, qQ, pQ, rQ, nQ, bd, bi, gU, gV, cU, cV, by rw [HS1.out, HS2.out]; exact hb9, M7.out.still k9, M8.out.still k9, M9.out.still k9, HD7.out.still k9, HI7.out.still k9, by rw [HS1.out]; exact U7.out.still k9, by rw [HS2.out]; exact V7.out.still k9⟩, K7.out.none k9⟩
  clear k9 hb9 CK
  go_wp2_with fail
  go_ret2
  exact FIN.out

end Go.Proofs.YtdmpiecdpdknaaaDoor
