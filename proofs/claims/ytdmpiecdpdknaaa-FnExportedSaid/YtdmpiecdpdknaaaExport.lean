/-
  rsa.PrivateKey.Export of a key with its primes (printed by gen_export.py).
-/
import Derived.Test.YtdmpiecdpdknaaaPriv2
import Derived.Test.YtdmpiecdpdknaaaGh
namespace Go.Proofs.Ytdmpiecdpdknaaa
open Go.RowKit

/-- bytes.Clone. -/
theorem clone_any (w : World) (g n c : Nat) (xs : List UInt8) (h : BytesAt w (some ⟨g, 0, none⟩) xs) (hn : xs.length = n) (hl : n ≤ 140737488355328) :
    Calls Try.prog 29 #[.slice (some ⟨g, 0, none⟩) n c] w (GivesBytes w.heap.size xs w) := by
  have hnil := eql_nil w ⟨g, 0, none⟩ n c
  have hown0 : (w.alloc (.cells #[] 5)).ownsRow w.heap.size 5 1 (.slice (some ⟨w.heap.size, 0, none⟩) 0 0) 0 [] := own_row w [] (by decide)
  go_enter Try.func29, Try.ntmps29
  go_wp2_with (at_builtin; refine wpList_append_bytes _ rfl _ _ rfl w.heap.size (.slice (some ⟨w.heap.size, 0, none⟩) 0 0) [] rfl hown0 (some ⟨g, 0, none⟩) c n xs rfl hn.symm (h.alloc _) (by simp; omega) (by simp) ?_; intro v' w1 hown hgrow)
  go_ret
  exact ⟨v', rfl, by simpa using hown, ((Kept.refl NoBlk w).alloc _).grow hown0 (Nat.le_refl _) hgrow⟩

theorem results_tmp8 {fn : Func} {a b c d e f g h : Tmp} (hr : fn.results = #[.tmp a, .tmp b, .tmp c, .tmp d, .tmp e, .tmp f, .tmp g, .tmp h]) (tmps : Array Value) (P : Program) (w : World) :
    (results fn tmps).run P w = .ok (.tuple #[tmps.getD a undef, tmps.getD b undef, tmps.getD c undef, tmps.getD d undef, tmps.getD e undef, tmps.getD f undef, tmps.getD g undef, tmps.getD h undef]) w := by
  simp [results, hr]

/-- What Export leaves. -/
def ExpB (m e d p q dp dq qi : Nat) (w : World) (x : Ending) (w' : World) : Prop :=
  ∃ (gN gD gP gQ gI : Nat) (A1 A2 : Option Addr) (c1 c2 : Nat), x = .returned (.tuple #[.slice (some ⟨gN, 0, none⟩) ((bitLen m + 7) / 8) ((bitLen m + 7) / 8), .int .i64 (e : Int), .slice (some ⟨gD, 0, none⟩) ((bitLen m + 7) / 8) ((bitLen m + 7) / 8), .slice (some ⟨gP, 0, none⟩) ((bitLen p + 7) / 8) ((bitLen p + 7) / 8), .slice (some ⟨gQ, 0, none⟩) ((bitLen q + 7) / 8) ((bitLen q + 7) / 8), .slice A1 ((bitLen (p - 1) + 7) / 8) c1, .slice A2 ((bitLen (q - 1) + 7) / 8) c2, .slice (some ⟨gI, 0, none⟩) ((bitLen p + 7) / 8) ((bitLen p + 7) / 8)]) ∧
    BytesAt w' (some ⟨gN, 0, none⟩) (enc ((bitLen m + 7) / 8) m) ∧ BytesAt w' (some ⟨gD, 0, none⟩) (enc ((bitLen m + 7) / 8) d) ∧ BytesAt w' (some ⟨gP, 0, none⟩) (enc ((bitLen p + 7) / 8) p) ∧ BytesAt w' (some ⟨gQ, 0, none⟩) (enc ((bitLen q + 7) / 8) q) ∧
    BytesAt w' A1 (enc ((bitLen (p - 1) + 7) / 8) dp) ∧ BytesAt w' A2 (enc ((bitLen (q - 1) + 7) / 8) dq) ∧ BytesAt w' (some ⟨gI, 0, none⟩) (enc ((bitLen p + 7) / 8) qi) ∧ (bitLen (p - 1) + 7) / 8 ≤ c1 ∧ (bitLen (q - 1) + 7) / 8 ≤ c2 ∧ Kept NoBlk w w'

set_option maxHeartbeats 4000000 in
set_option maxRecDepth 100000 in
theorem export_nm (b : World) (pk m e d p q dp dq qi : Nat) (hpk : PrivAt b pk m e d p q dp dq qi) (hdm : d ≤ m) (hqi : qi ≤ p) (mb : bitLen m < 2048) (pb : bitLen p ≤ 600) (qb : bitLen q ≤ 600) :
    Calls Try.prog 14 #[.pointer (some ⟨pk, 0, none⟩)] b (ExpB m e d p q dp dq qi b) := by
  obtain ⟨qN, pN, rN, nN, qP, pP, rP, nP, qQ, pQ, rQ, nQ, bd, bi, gP, gQ, hB, hN, hP, hQ, hD, hI, hbP, hbQ⟩ := hpk
  obtain ⟨SN, hSN⟩ : ∃ SN, (bitLen m + 7) / 8 = SN := ⟨_, rfl⟩
  obtain ⟨SP, hSP⟩ : ∃ SP, (bitLen p + 7) / 8 = SP := ⟨_, rfl⟩
  obtain ⟨SQ, hSQ⟩ : ∃ SQ, (bitLen q + 7) / 8 = SQ := ⟨_, rfl⟩
  obtain ⟨S1, hS1⟩ : ∃ S1, (bitLen (p - 1) + 7) / 8 = S1 := ⟨_, rfl⟩
  obtain ⟨S2, hS2⟩ : ∃ S2, (bitLen (q - 1) + 7) / 8 = S2 := ⟨_, rfl⟩
  have b1 := bitLen_mono (Nat.sub_le p 1)
  have b2 := bitLen_mono (Nat.sub_le q 1)
  have SZ : Hid (S1 ≤ 75 ∧ S2 ≤ 75) := Lib.hid (by omega)
  have HSN := Lib.hid hSN
  have HSP := Lib.hid hSP
  have HSQ := Lib.hid hSQ
  have LTN : Hid (∀ v, v ≤ m → v < Pb SN) := Lib.hid (fun v h => by rw [← hSN]; exact lt_PbS h)
  have LTP : Hid (∀ v, v ≤ p → v < Pb SP) := Lib.hid (fun v h => by rw [← hSP]; exact lt_PbS h)
  have LTQ : Hid (∀ v, v ≤ q → v < Pb SQ) := Lib.hid (fun v h => by rw [← hSQ]; exact lt_PbS h)
  rw [hS1, hS2] at hB
  rw [hS1] at hbP
  rw [hS2] at hbQ
  unfold ExpB
  rw [hSN, hSP, hSQ, hS1, hS2]
  have PB := Lib.hid hB
  have MN := Lib.hid hN
  have MP := Lib.hid hP
  have MQ := Lib.hid hQ
  have ND := Lib.hid hD
  have NI := Lib.hid hI
  have BP := Lib.hid hbP
  have BQ := Lib.hid hbQ
  have DM := Lib.hid hdm
  have QI := Lib.hid hqi
  have BL : Hid (pk < b.heap.size) := Lib.hid hB.lt
  have A_b : Hid (Kept NoBlk b b) := Lib.hid (Kept.refl _ _)
  clear hB hN hP hQ hD hI hbP hbQ hdm hqi mb pb qb hSN hSP hSQ hS1 hS2 b1 b2
  go_enter Try.func14, Try.ntmps14
  have c0 : b.cell? ⟨pk, 0, none⟩ = some (.pointer (some ⟨qN, 0, none⟩)) := (PB.out.kept A_b.out (fun e => e)).cellIs rfl
  have hkb : pk < b.heap.size := Nat.lt_of_lt_of_le BL.out A_b.out.size
  go_wp2_with fail
  go_region_held3 (fun w' => w'.cell? ⟨pk, 0, none⟩ = some (.pointer (some ⟨qN, 0, none⟩))) (go_keep) (first | (go_at_call 27; have CC := Lib.hid (modNat_nm qN pN rN nN m b.drew (Md.drew (MN.out.still A_b.out))); refine CC.out.mono ?_; rintro e v1 ⟨rfl, h', hk'⟩; have hk : Kept NoBlk b v1 := ((Kept.refl NoBlk b).drew).trans hk'; have h : Nm v1 (b.heap.size + 1) nN m := h'; clear h' hk'; rw [show b.drew.heap.size = b.heap.size from rfl]; have cA : v1.cell? ⟨pk, 0, none⟩ = some (.pointer (some ⟨qN, 0, none⟩)) := (hk.cell (p := ⟨pk, 0, none⟩) (Nat.lt_of_lt_of_le BL.out A_b.out.size) (fun e => e)).trans c0; obtain ⟨X1, hX1⟩ : ∃ X1, b.heap.size + 1 = X1 := ⟨_, rfl⟩; rw [hX1]; rw [hX1] at h; replace A_b := Lib.hid (A_b.out.none hk); have F_X1 := Lib.hid h; clear h hk CC hX1) | (go_at_call 28; have CC := Lib.hid (bytes_nm X1 qN pN rN nN m m SN v1 F_X1.out (MN.out.still A_b.out) HSN.out (LTN.out _ (Nat.le_refl _))); refine CC.out.mono ?_; rintro e v2 ⟨rfl, h, hk⟩; have cB : v2.cell? ⟨pk, 0, none⟩ = some (.pointer (some ⟨qN, 0, none⟩)) := (hk.cell (p := ⟨pk, 0, none⟩) (Nat.lt_of_lt_of_le BL.out A_b.out.size) (fun e => e)).trans cA; obtain ⟨goN, hgoN⟩ : ∃ goN, v1.heap.size = goN := ⟨_, rfl⟩; rw [hgoN] at h ⊢; replace F_X1 := Lib.hid (F_X1.out.still hk); replace A_b := Lib.hid (A_b.out.none hk); have F_oN := Lib.hid h.bytes; clear h hk CC hgoN))
  clear c0 cA cB hkb
  clear F_X1
  have c1 : v2.cell? ⟨pk, 1, none⟩ = some (.int .i64 (e : Int)) := (PB.out.kept A_b.out (fun e => e)).cellIs rfl
  have c2 : v2.cell? ⟨pk, 2, none⟩ = some (.pointer (some ⟨bd, 0, none⟩)) := (PB.out.kept A_b.out (fun e => e)).cellIs rfl
  have c0 : v2.cell? ⟨pk, 0, none⟩ = some (.pointer (some ⟨qN, 0, none⟩)) := (PB.out.kept A_b.out (fun e => e)).cellIs rfl
  have hkb : pk < v2.heap.size := Nat.lt_of_lt_of_le BL.out A_b.out.size
  go_wp2_with fail
  go_region_held3 (fun w' => w'.cell? ⟨pk, 2, none⟩ = some (.pointer (some ⟨bd, 0, none⟩)) ∧ w'.cell? ⟨pk, 0, none⟩ = some (.pointer (some ⟨qN, 0, none⟩))) (exact ⟨by assumption, by assumption⟩) (first | (go_at_call 28; have CC := Lib.hid (bytes_nm bd qN pN rN nN m d SN v2.drew (Nm.drew (ND.out.still A_b.out)) (Md.drew (MN.out.still A_b.out)) HSN.out (LTN.out _ DM.out)); refine CC.out.mono ?_; rintro e v3 ⟨rfl, h', hk'⟩; have hk : Kept NoBlk v2 v3 := ((Kept.refl NoBlk v2).drew).trans hk'; have h : Blk v3 v2.heap.size 5 ((enc SN d).map B).toArray := h'; clear h' hk'; rw [show v2.drew.heap.size = v2.heap.size from rfl]; have c2A : v3.cell? ⟨pk, 2, none⟩ = some (.pointer (some ⟨bd, 0, none⟩)) := (hk.cell (p := ⟨pk, 2, none⟩) hkb (fun e => e)).trans c2; have c0B : v3.cell? ⟨pk, 0, none⟩ = some (.pointer (some ⟨qN, 0, none⟩)) := (hk.cell (p := ⟨pk, 0, none⟩) hkb (fun e => e)).trans c0; obtain ⟨goD, hgoD⟩ : ∃ goD, v2.heap.size = goD := ⟨_, rfl⟩; rw [hgoD] at h ⊢; replace F_oN := Lib.hid (F_oN.out.still hk); replace A_b := Lib.hid (A_b.out.none hk); have F_oD := Lib.hid h.bytes; clear h hk CC hgoD))
  clear hkb c2 c2A c0 c0B
  have hnil := eql_nil v3 ⟨gP, 0, none⟩ S1 S1
  have c5 : v3.cell? ⟨pk, 5, none⟩ = some (.slice (some ⟨gP, 0, none⟩) S1 S1) := (PB.out.kept A_b.out (fun e => e)).cellIs rfl
  have c3 : v3.cell? ⟨pk, 3, none⟩ = some (.pointer (some ⟨qP, 0, none⟩)) := (PB.out.kept A_b.out (fun e => e)).cellIs rfl
  have hkb : pk < v3.heap.size := Nat.lt_of_lt_of_le BL.out A_b.out.size
  go_wp2_with fail
  go_region_held3 (fun w' => w'.cell? ⟨pk, 3, none⟩ = some (.pointer (some ⟨qP, 0, none⟩))) (go_keep) (first | (go_at_call 27; have CC := Lib.hid (modNat_nm qP pP rP nP p v3.drew (Md.drew (MP.out.still A_b.out))); refine CC.out.mono ?_; rintro e v4 ⟨rfl, h', hk'⟩; have hk : Kept NoBlk v3 v4 := ((Kept.refl NoBlk v3).drew).trans hk'; have h : Nm v4 (v3.heap.size + 1) nP p := h'; clear h' hk'; rw [show v3.drew.heap.size = v3.heap.size from rfl]; have cA : v4.cell? ⟨pk, 3, none⟩ = some (.pointer (some ⟨qP, 0, none⟩)) := (hk.cell (p := ⟨pk, 3, none⟩) (Nat.lt_of_lt_of_le BL.out A_b.out.size) (fun e => e)).trans c3; obtain ⟨X2, hX2⟩ : ∃ X2, v3.heap.size + 1 = X2 := ⟨_, rfl⟩; rw [hX2]; rw [hX2] at h; replace F_oN := Lib.hid (F_oN.out.still hk); replace F_oD := Lib.hid (F_oD.out.still hk); replace A_b := Lib.hid (A_b.out.none hk); have F_X2 := Lib.hid h; clear h hk CC hX2) | (go_at_call 28; have CC := Lib.hid (bytes_nm X2 qP pP rP nP p p SP v4 F_X2.out (MP.out.still A_b.out) HSP.out (LTP.out _ (Nat.le_refl _))); refine CC.out.mono ?_; rintro e v5 ⟨rfl, h, hk⟩; have cB : v5.cell? ⟨pk, 3, none⟩ = some (.pointer (some ⟨qP, 0, none⟩)) := (hk.cell (p := ⟨pk, 3, none⟩) (Nat.lt_of_lt_of_le BL.out A_b.out.size) (fun e => e)).trans cA; obtain ⟨goP, hgoP⟩ : ∃ goP, v4.heap.size = goP := ⟨_, rfl⟩; rw [hgoP] at h ⊢; replace F_oN := Lib.hid (F_oN.out.still hk); replace F_oD := Lib.hid (F_oD.out.still hk); replace F_X2 := Lib.hid (F_X2.out.still hk); replace A_b := Lib.hid (A_b.out.none hk); have F_oP := Lib.hid h.bytes; clear h hk CC hgoP))
  clear c3 cA cB hkb
  clear F_X2
  have c4 : v5.cell? ⟨pk, 4, none⟩ = some (.pointer (some ⟨qQ, 0, none⟩)) := (PB.out.kept A_b.out (fun e => e)).cellIs rfl
  have hkb : pk < v5.heap.size := Nat.lt_of_lt_of_le BL.out A_b.out.size
  go_wp2_with fail
  go_region_held3 (fun w' => w'.cell? ⟨pk, 4, none⟩ = some (.pointer (some ⟨qQ, 0, none⟩))) (go_keep) (first | (go_at_call 27; have CC := Lib.hid (modNat_nm qQ pQ rQ nQ q v5.drew (Md.drew (MQ.out.still A_b.out))); refine CC.out.mono ?_; rintro e v6 ⟨rfl, h', hk'⟩; have hk : Kept NoBlk v5 v6 := ((Kept.refl NoBlk v5).drew).trans hk'; have h : Nm v6 (v5.heap.size + 1) nQ q := h'; clear h' hk'; rw [show v5.drew.heap.size = v5.heap.size from rfl]; have cA : v6.cell? ⟨pk, 4, none⟩ = some (.pointer (some ⟨qQ, 0, none⟩)) := (hk.cell (p := ⟨pk, 4, none⟩) (Nat.lt_of_lt_of_le BL.out A_b.out.size) (fun e => e)).trans c4; obtain ⟨X3, hX3⟩ : ∃ X3, v5.heap.size + 1 = X3 := ⟨_, rfl⟩; rw [hX3]; rw [hX3] at h; replace F_oN := Lib.hid (F_oN.out.still hk); replace F_oD := Lib.hid (F_oD.out.still hk); replace F_oP := Lib.hid (F_oP.out.still hk); replace A_b := Lib.hid (A_b.out.none hk); have F_X3 := Lib.hid h; clear h hk CC hX3) | (go_at_call 28; have CC := Lib.hid (bytes_nm X3 qQ pQ rQ nQ q q SQ v6 F_X3.out (MQ.out.still A_b.out) HSQ.out (LTQ.out _ (Nat.le_refl _))); refine CC.out.mono ?_; rintro e v7 ⟨rfl, h, hk⟩; have cB : v7.cell? ⟨pk, 4, none⟩ = some (.pointer (some ⟨qQ, 0, none⟩)) := (hk.cell (p := ⟨pk, 4, none⟩) (Nat.lt_of_lt_of_le BL.out A_b.out.size) (fun e => e)).trans cA; obtain ⟨goQ, hgoQ⟩ : ∃ goQ, v6.heap.size = goQ := ⟨_, rfl⟩; rw [hgoQ] at h ⊢; replace F_oN := Lib.hid (F_oN.out.still hk); replace F_oD := Lib.hid (F_oD.out.still hk); replace F_oP := Lib.hid (F_oP.out.still hk); replace F_X3 := Lib.hid (F_X3.out.still hk); replace A_b := Lib.hid (A_b.out.none hk); have F_oQ := Lib.hid h.bytes; clear h hk CC hgoQ))
  clear c4 cA cB hkb
  clear F_X3
  have c5 : v7.cell? ⟨pk, 5, none⟩ = some (.slice (some ⟨gP, 0, none⟩) S1 S1) := (PB.out.kept A_b.out (fun e => e)).cellIs rfl
  have C8 := Lib.hid (clone_any v7 gP S1 S1 (enc S1 dp) (BP.out.still A_b.out) (enc_length _ _) (by have := SZ.out; omega))
  go_wp2_with fail
  refine C8.out.mono ?_
  rintro e v8 ⟨xoU, rfl, ho, hk⟩
  rw [enc_length] at ho
  obtain ⟨AoU, doU, rfl, hcoU, _, h, _⟩ := own_form ho
  replace F_oN := Lib.hid (F_oN.out.still hk)
  replace F_oD := Lib.hid (F_oD.out.still hk)
  replace F_oP := Lib.hid (F_oP.out.still hk)
  replace F_oQ := Lib.hid (F_oQ.out.still hk)
  replace A_b := Lib.hid (A_b.out.none hk)
  have F_oU : Hid (BytesAt v8 AoU (enc S1 dp)) := Lib.hid h
  have HCoU := Lib.hid hcoU
  clear h ho hk C8 c5 hcoU
  have c6 : v8.cell? ⟨pk, 6, none⟩ = some (.slice (some ⟨gQ, 0, none⟩) S2 S2) := (PB.out.kept A_b.out (fun e => e)).cellIs rfl
  have C9 := Lib.hid (clone_any v8 gQ S2 S2 (enc S2 dq) (BQ.out.still A_b.out) (enc_length _ _) (by have := SZ.out; omega))
  go_wp2_with fail
  refine C9.out.mono ?_
  rintro e v9 ⟨xoV, rfl, ho, hk⟩
  rw [enc_length] at ho
  obtain ⟨AoV, doV, rfl, hcoV, _, h, _⟩ := own_form ho
  replace F_oN := Lib.hid (F_oN.out.still hk)
  replace F_oD := Lib.hid (F_oD.out.still hk)
  replace F_oP := Lib.hid (F_oP.out.still hk)
  replace F_oQ := Lib.hid (F_oQ.out.still hk)
  replace F_oU := Lib.hid (F_oU.out.still hk)
  replace A_b := Lib.hid (A_b.out.none hk)
  have F_oV : Hid (BytesAt v9 AoV (enc S2 dq)) := Lib.hid h
  have HCoV := Lib.hid hcoV
  clear h ho hk C9 c6 hcoV
  have c7 : v9.cell? ⟨pk, 7, none⟩ = some (.pointer (some ⟨bi, 0, none⟩)) := (PB.out.kept A_b.out (fun e => e)).cellIs rfl
  have c3 : v9.cell? ⟨pk, 3, none⟩ = some (.pointer (some ⟨qP, 0, none⟩)) := (PB.out.kept A_b.out (fun e => e)).cellIs rfl
  have hkb : pk < v9.heap.size := Nat.lt_of_lt_of_le BL.out A_b.out.size
  go_wp2_with fail
  go_region_held3 (fun w' => w'.cell? ⟨pk, 7, none⟩ = some (.pointer (some ⟨bi, 0, none⟩)) ∧ w'.cell? ⟨pk, 3, none⟩ = some (.pointer (some ⟨qP, 0, none⟩))) (exact ⟨by assumption, by assumption⟩) (first | (go_at_call 28; have CC := Lib.hid (bytes_nm bi qP pP rP nP p qi SP v9.drew (Nm.drew (NI.out.still A_b.out)) (Md.drew (MP.out.still A_b.out)) HSP.out (LTP.out _ QI.out)); refine CC.out.mono ?_; rintro e v10 ⟨rfl, h', hk'⟩; have hk : Kept NoBlk v9 v10 := ((Kept.refl NoBlk v9).drew).trans hk'; have h : Blk v10 v9.heap.size 5 ((enc SP qi).map B).toArray := h'; clear h' hk'; rw [show v9.drew.heap.size = v9.heap.size from rfl]; have c7A : v10.cell? ⟨pk, 7, none⟩ = some (.pointer (some ⟨bi, 0, none⟩)) := (hk.cell (p := ⟨pk, 7, none⟩) hkb (fun e => e)).trans c7; have c3B : v10.cell? ⟨pk, 3, none⟩ = some (.pointer (some ⟨qP, 0, none⟩)) := (hk.cell (p := ⟨pk, 3, none⟩) hkb (fun e => e)).trans c3; obtain ⟨goI, hgoI⟩ : ∃ goI, v9.heap.size = goI := ⟨_, rfl⟩; rw [hgoI] at h ⊢; replace F_oN := Lib.hid (F_oN.out.still hk); replace F_oD := Lib.hid (F_oD.out.still hk); replace F_oP := Lib.hid (F_oP.out.still hk); replace F_oQ := Lib.hid (F_oQ.out.still hk); replace F_oU := Lib.hid (F_oU.out.still hk); replace F_oV := Lib.hid (F_oV.out.still hk); replace A_b := Lib.hid (A_b.out.none hk); have F_oI := Lib.hid h.bytes; clear h hk CC hgoI))
  clear hkb c7 c7A c3 c3B
  go_wp2_with fail
  (try simp only [Exit.inBlock, Exit.then])
  refine bodyPost_ret (results_tmp8 rfl _ _ _) rfl ?_
  exact ⟨goN, goD, goP, goQ, goI, AoU, AoV, doU, doV, rfl, F_oN.out, F_oD.out, F_oP.out, F_oQ.out, F_oU.out, F_oV.out, F_oI.out, HCoU.out, HCoV.out, A_b.out⟩

end Go.Proofs.Ytdmpiecdpdknaaa
