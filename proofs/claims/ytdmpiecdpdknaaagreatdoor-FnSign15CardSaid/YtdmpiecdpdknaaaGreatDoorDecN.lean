/-
  rsa.decrypt without the primes (printed by gen_dec.py).
-/
import Derived.Test.YtdmpiecdpdknaaaGreatDoorDecC
namespace Go.Proofs.YtdmpiecdpdknaaaGreatDoor
open Go.RowKit

/-- A private key without its primes. -/
def PrivNo (w : World) (pk m e d : Nat) : Prop := ∃ qN pN rN nN bd : Nat, Blk w pk 80 #[.pointer (some ⟨qN, 0, none⟩), .int .i64 (e : Int), .pointer (some ⟨bd, 0, none⟩), .pointer none, .pointer none, .slice none 0 0, .slice none 0 0, .pointer none, .bool false] ∧ Md w qN pN rN nN m ∧ Nm w bd nN d

theorem eql_nil_yes (w : World) : (binOp .eql 22 (.slice none 0 0) (.slice none 0 0)).run Tryz.prog w = .ok (.bool true) w := by
  exact run_eql_slice_nil w 22 5 none 0 0 Tryz.underlying22

set_option maxHeartbeats 4000000 in
set_option maxRecDepth 100000 in
theorem decN_nm (w : World) (pk m e d c X : Nat) (A : Option Addr) (cap : Nat) (cb : List UInt8) (chk : Bool)
    (hpk : PrivNo w pk m e d) (hA : BytesAt w A cb) (hc : cb.length ≤ cap) (hcl : cb.length ≤ (bitLen m + 7) / 8) (hcv : num cb = c) (hcm : c < m) (hdm : d < m) (mo : m % 2 = 1)
    (mb : bitLen m < 2048) (e2 : 2 ≤ e ∧ e ≤ 2147483647) (hX : c ^ d % m = X) (hE : X ^ e % m = c) :
    Calls Tryz.prog 45 #[.pointer (some ⟨pk, 0, none⟩), .slice A cb.length cap, .bool chk] w (DecOut m X w) := by
  obtain ⟨qN, pN, rN, nN, bd, hB, hN, hD⟩ := hpk
  obtain ⟨SN, hSN⟩ : ∃ SN, (bitLen m + 7) / 8 = SN := ⟨_, rfl⟩
  have HSN := Lib.hid hSN
  have LTN : Hid (∀ v, v ≤ m → v < Pb SN) := Lib.hid (fun v h => by rw [← hSN]; exact lt_PbS h)
  have EN : Hid (num (enc SN d) = d) := Lib.hid (by rw [← hSN]; exact encNum (Nat.le_of_lt hdm))
  have SZ : Hid (SN ≤ 256 ∧ SN ≤ 256 ∧ cb.length ≤ 8 * nN ∧ cb.length ≤ 256) := Lib.hid (by
    have h5 := hN.bytes_le
    omega)
  have c0 : w.cell? ⟨pk, 0, none⟩ = some (.pointer (some ⟨qN, 0, none⟩)) := hB.cellIs rfl
  have c1 : w.cell? ⟨pk, 1, none⟩ = some (.int .i64 (e : Int)) := hB.cellIs rfl
  have HB := Lib.hid hB
  have HN := Lib.hid hN
  have HD := Lib.hid hD
  have HA := Lib.hid hA
  have HC := Lib.hid hc
  have HCV := Lib.hid hcv
  have PL : Hid (c < m ∧ d < m) := Lib.hid ⟨hcm, hdm⟩
  have MO := Lib.hid mo
  have E3 := Lib.hid e2
  have HX := Lib.hid hX
  have HE := Lib.hid hE
  have XLT : Hid (X < m) := Lib.hid (by rw [← hX]; exact Nat.mod_lt _ (by omega))
  clear hB hN hD hA hc hcl hcv hcm mo mb e2 hX hE hSN
  go_enter Tryz.func45, Tryz.ntmps45
  go_wp2_with fail
  go_quiet (fail)
  generalize hq : w.drewN nq = b
  have kwb : Kept NoBlk w b := hq ▸ (Kept.refl NoBlk _).drewN _
  have KWB := Lib.hid kwb
  have PB := Lib.hid (HB.out.kept kwb (fun e => e))
  have MN := Lib.hid (HN.out.still kwb)
  have ND := Lib.hid (HD.out.still kwb)
  have BA := Lib.hid (HA.out.still kwb)
  have BL : Hid ((pN < b.heap.size ∧ rN < b.heap.size) ∧ bd < b.heap.size ∧ pk < b.heap.size ∧ pk < b.heap.size ∧ pk < b.heap.size) := Lib.hid (by
    have h1 := MN.out.ltq
    have h4 := MN.out.ltr MO.out
    have h7 := PB.out.lt
    have h9 := ND.out.lt
    omega)
  have A_b : Hid (Kept NoBlk b b) := Lib.hid (Kept.refl _ _)
  clear hq kwb c0 c1 HB HN HD HA
  have C1 := Lib.hid (newNat_nm b)
  go_wp2_with fail
  refine C1.out.mono ?_
  rintro e v1 ⟨rfl, h, hk⟩
  obtain ⟨CT, hCT⟩ : ∃ CT, b.heap.size + 1 = CT := ⟨_, rfl⟩
  rw [hCT] at h ⊢
  have LB_CT : Hid (b.heap.size < CT) := Lib.hid (by have := A_b.out.size; omega)
  replace A_b := Lib.hid (A_b.out.none hk)
  have F_CT := Lib.hid h
  clear h hk C1 hCT
  have h := setBytes_yes CT qN pN rN 0 0 nN m A cap cb v1 F_CT.out (MN.out.still A_b.out) (by have := LB_CT.out; have := BL.out; omega) (by have := LB_CT.out; have := BL.out; omega) (BA.out.still A_b.out) (off_bytes F_CT.out (BA.out.still A_b.out)) HC.out (by have := SZ.out; omega) (by rw [HCV.out]; exact PL.out.1) SZ.out.2.2.1
  rw [HCV.out] at h
  have C2 := Lib.hid h
  clear h
  go_wp2_with fail
  refine C2.out.mono ?_
  rintro e v2 ⟨rfl, h, hk⟩
  replace A_b := Lib.hid (At2.new A_b.out hk LB_CT.out)
  replace F_CT := Lib.hid h
  clear h hk C2
  have hnil := eql_nil_yes v2
  have c5 : v2.cell? ⟨pk, 5, none⟩ = some (.slice none 0 0) := (PB.out.kept A_b.out (fun e => e)).cellIs rfl
  have c2 : v2.cell? ⟨pk, 2, none⟩ = some (.pointer (some ⟨bd, 0, none⟩)) := (PB.out.kept A_b.out (fun e => e)).cellIs rfl
  have hkb : pk < v2.heap.size := Nat.lt_of_lt_of_le BL.out.2.2.2.1 A_b.out.size
  go_wp2_with fail
  go_region_held3 (fun w' => w'.cell? ⟨pk, 2, none⟩ = some (.pointer (some ⟨bd, 0, none⟩))) (go_keep) (first | (go_at_call 41; refine (newNat_nm _).mono ?_; rintro e v3 ⟨rfl, h', hk'⟩; have hk : Kept NoBlk v2 v3 := ((Kept.refl NoBlk v2).drew).trans hk'; have h : Nm v3 (v2.heap.size + 1) 0 0 := h'; clear h' hk'; have cA : v3.cell? ⟨pk, 2, none⟩ = some (.pointer (some ⟨bd, 0, none⟩)) := (hk.cell (p := ⟨pk, 2, none⟩) hkb (fun e => e)).trans c2; obtain ⟨M, hM⟩ : ∃ M, v2.heap.size + 1 = M := ⟨_, rfl⟩; rw [show v2.drew.heap.size = v2.heap.size from rfl, hM]; rw [hM] at h; have LB_M : Hid (b.heap.size < M) := Lib.hid (by have := A_b.out.size; omega); have NE_CT_M : Hid (CT ≠ M) := Lib.hid (by have := F_CT.out.lt; omega); have NE_M_CT : Hid (M ≠ CT) := Lib.hid NE_CT_M.out.symm; replace F_CT := Lib.hid (F_CT.out.still hk); replace A_b := Lib.hid (A_b.out.none hk); have F_M := Lib.hid h; clear h hk hM) | (go_at_call 47; have CC := Lib.hid (bytes_nm bd qN pN rN nN m d SN v3 (ND.out.still A_b.out) (MN.out.still A_b.out) HSN.out (LTN.out _ (Nat.le_of_lt PL.out.2))); refine CC.out.mono ?_; rintro e v4 ⟨rfl, h, hk⟩; have cB : v4.cell? ⟨pk, 2, none⟩ = some (.pointer (some ⟨bd, 0, none⟩)) := (hk.cell (p := ⟨pk, 2, none⟩) (Nat.lt_of_lt_of_le BL.out.2.2.2.1 A_b.out.size) (fun e => e)).trans cA; obtain ⟨gDB, hgDB⟩ : ∃ gDB, v3.heap.size = gDB := ⟨_, rfl⟩; rw [hgDB] at h ⊢; replace F_CT := Lib.hid (F_CT.out.still hk); replace F_M := Lib.hid (F_M.out.still hk); replace A_b := Lib.hid (A_b.out.none hk); have F_DB := Lib.hid h.bytes; clear h hk CC hgDB) | (go_at_call 61; have h := exp_nm M CT qN pN rN 0 0 nN m c (some ⟨gDB, 0, none⟩) SN (enc SN d) v4 F_M.out F_CT.out (MN.out.still A_b.out) MO.out (by have := LB_M.out; have := BL.out; omega) (by have := LB_M.out; have := BL.out; omega) PL.out.1 F_DB.out (by rw [enc_length]; have := SZ.out; omega); rw [enc_length, EN.out, HX.out] at h; have CC := Lib.hid h; clear h; refine CC.out.mono ?_; rintro e v5 ⟨rfl, h, hk⟩; have cC : v5.cell? ⟨pk, 2, none⟩ = some (.pointer (some ⟨bd, 0, none⟩)) := (hk.cell (p := ⟨pk, 2, none⟩) (Nat.lt_of_lt_of_le BL.out.2.2.2.1 A_b.out.size) (show ¬ At2 M pk from fun e => by unfold At2 at e; have := LB_M.out; have := BL.out; omega)).trans cB; have F_CT_ := F_CT.out.away F_M.out NE_CT_M.out hk; have F_DB_ := F_DB.out.at2 hk (off_bytes F_M.out F_DB.out); replace F_CT := Lib.hid F_CT_; replace F_DB := Lib.hid F_DB_; clear F_CT_ F_DB_; replace A_b := Lib.hid (At2.new A_b.out hk LB_M.out); replace F_M := Lib.hid h; clear h hk CC))
  clear c2 cA cB cC hkb
  clear hnil c5
  clear F_DB
  cases chk
  · skip
    have C6 := Lib.hid (bytes_nm M qN pN rN nN m X SN v5 F_M.out (MN.out.still A_b.out) HSN.out (LTN.out _ (Nat.le_of_lt XLT.out)))
    go_wp2_with fail
    refine C6.out.mono ?_
    rintro e v6 ⟨rfl, h, hk⟩
    have FIN : Hid (DecOut m X w (.returned (.tuple #[.slice (some ⟨v5.heap.size, 0, none⟩) SN SN, .nilIface])) v6) := Lib.hid ⟨v5.heap.size, by rw [HSN.out], Nat.le_trans KWB.out.size A_b.out.size, by rw [HSN.out]; exact h, KWB.out.none (A_b.out.none hk)⟩
    clear h hk C6
    go_wp2_with fail
    go_ret2
    exact FIN.out
  · skip
    have C6 := Lib.hid (newNat_nm v5)
    go_wp2_with fail
    refine C6.out.mono ?_
    rintro e v6 ⟨rfl, h, hk⟩
    obtain ⟨C1, hC1⟩ : ∃ C1, v5.heap.size + 1 = C1 := ⟨_, rfl⟩
    rw [hC1] at h ⊢
    have LB_C1 : Hid (b.heap.size < C1) := Lib.hid (by have := A_b.out.size; omega)
    have NE_CT_C1 : Hid (CT ≠ C1) := Lib.hid (by have := F_CT.out.lt; omega)
    have NE_C1_CT : Hid (C1 ≠ CT) := Lib.hid NE_CT_C1.out.symm
    have NE_M_C1 : Hid (M ≠ C1) := Lib.hid (by have := F_M.out.lt; omega)
    have NE_C1_M : Hid (C1 ≠ M) := Lib.hid NE_M_C1.out.symm
    replace F_CT := Lib.hid (F_CT.out.still hk)
    replace F_M := Lib.hid (F_M.out.still hk)
    replace A_b := Lib.hid (A_b.out.none hk)
    have F_C1 := Lib.hid h
    clear h hk C6 hC1
    have hee : (e : Int) ≤ 2147483647 := by have := E3.out; omega
    have heu : IntKind.u64.wrap (e : Int) = (e : Int) := by rw [IntKind.wrap_u64]; omega
    have h := expShort_nm C1 M qN pN rN 0 0 nN m X e v6 F_C1.out F_M.out (MN.out.still A_b.out) MO.out (by have := LB_C1.out; have := BL.out; omega) (by have := LB_C1.out; have := BL.out; omega) XLT.out (by have := E3.out; omega) (by have := E3.out; omega)
    rw [HE.out] at h
    have C7 := Lib.hid h
    clear h
    go_wp2_with fail
    refine C7.out.mono ?_
    rintro e v7 ⟨rfl, h, hk⟩
    have F_CT_ := F_CT.out.away F_C1.out NE_CT_C1.out hk
    have F_M_ := F_M.out.away F_C1.out NE_M_C1.out hk
    replace F_CT := Lib.hid F_CT_
    replace F_M := Lib.hid F_M_
    clear F_CT_ F_M_
    replace A_b := Lib.hid (At2.new A_b.out hk LB_C1.out)
    replace F_C1 := Lib.hid h
    clear h hk C7
    clear hee heu
    have h := equal_nm C1 CT nN c c v7 F_C1.out F_CT.out
    rw [show ((bitN (decide (c = c)) : Nat) : Int) = 1 by rw [decide_eq_true rfl]; rfl] at h
    have C8 := Lib.hid h
    clear h
    go_wp2_with fail
    refine C8.out.mono ?_
    rintro e v8 ⟨rfl, hk⟩
    replace F_CT := Lib.hid (F_CT.out.still hk)
    replace F_M := Lib.hid (F_M.out.still hk)
    replace F_C1 := Lib.hid (F_C1.out.still hk)
    replace A_b := Lib.hid (A_b.out.none hk)
    clear hk C8
    have C9 := Lib.hid (bytes_nm M qN pN rN nN m X SN v8 F_M.out (MN.out.still A_b.out) HSN.out (LTN.out _ (Nat.le_of_lt XLT.out)))
    go_wp2_with fail
    refine C9.out.mono ?_
    rintro e v9 ⟨rfl, h, hk⟩
    have FIN : Hid (DecOut m X w (.returned (.tuple #[.slice (some ⟨v8.heap.size, 0, none⟩) SN SN, .nilIface])) v9) := Lib.hid ⟨v8.heap.size, by rw [HSN.out], Nat.le_trans KWB.out.size A_b.out.size, by rw [HSN.out]; exact h, KWB.out.none (A_b.out.none hk)⟩
    clear h hk C9
    go_wp2_with fail
    go_ret2
    exact FIN.out

end Go.Proofs.YtdmpiecdpdknaaaGreatDoor
