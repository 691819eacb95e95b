/-
  impl.Exported (printed by gen_exported.py).
-/
import Derived.Test.YtdmpiecdpdknaaaExport
import Derived.Test.YtdmpiecdpdknaaaPriv3
namespace Go.Proofs.Ytdmpiecdpdknaaa
open Go.RowKit

theorem KeyV.still {w w' : World} {m e d : Nat} {bP bQ : List UInt8} {v : Value} (h : KeyV w m e d bP bQ v) (k : Kept NoBlk w w') : KeyV w' m e d bP bQ v := by
  obtain ⟨aN, aD, aP, aQ, cN, cD, cP, cQ, rfl, hN, hD, hP, hQ, kN, kD, kP, kQ⟩ := h
  exact ⟨aN, aD, aP, aQ, cN, cD, cP, cQ, rfl, hN.still k, hD.still k, hP.still k, hQ.still k, kN, kD, kP, kQ⟩

/-- What impl.Exported leaves: seven rows in a new one. -/
def ExpL (m e d p q dp dq qi : Nat) (w : World) (x : Ending) (w' : World) : Prop :=
  ∃ (gl : Nat) (A0 A1 A2 A3 A4 A5 A6 : Option Addr) (c0 c1 c2 c3 c4 c5 c6 : Nat), x = .returned (.tuple #[.slice (some ⟨gl, 0, none⟩) 7 7, .int .i64 (e : Int), .bool true]) ∧ w.heap.size ≤ gl ∧
    Blk w' gl 22 #[.slice A0 ((bitLen m + 7) / 8) c0, .slice A1 ((bitLen m + 7) / 8) c1, .slice A2 ((bitLen p + 7) / 8) c2, .slice A3 ((bitLen q + 7) / 8) c3, .slice A4 ((bitLen (p - 1) + 7) / 8) c4, .slice A5 ((bitLen (q - 1) + 7) / 8) c5, .slice A6 ((bitLen p + 7) / 8) c6] ∧
    BytesAt w' A0 (enc ((bitLen m + 7) / 8) m) ∧ BytesAt w' A1 (enc ((bitLen m + 7) / 8) d) ∧ BytesAt w' A2 (enc ((bitLen p + 7) / 8) p) ∧ BytesAt w' A3 (enc ((bitLen q + 7) / 8) q) ∧ BytesAt w' A4 (enc ((bitLen (p - 1) + 7) / 8) dp) ∧ BytesAt w' A5 (enc ((bitLen (q - 1) + 7) / 8) dq) ∧ BytesAt w' A6 (enc ((bitLen p + 7) / 8) qi) ∧
    ((bitLen m + 7) / 8) ≤ c0 ∧ ((bitLen m + 7) / 8) ≤ c1 ∧ ((bitLen p + 7) / 8) ≤ c2 ∧ ((bitLen q + 7) / 8) ≤ c3 ∧ ((bitLen (p - 1) + 7) / 8) ≤ c4 ∧ ((bitLen (q - 1) + 7) / 8) ≤ c5 ∧ ((bitLen p + 7) / 8) ≤ c6 ∧ Kept NoBlk w w'

set_option maxHeartbeats 1600000 in
set_option maxRecDepth 20000 in
theorem exported_nm (w : World) (m e d p q dp dq qi : Nat) (bP bQ : List UInt8) (v : Value) (hv : KeyV w m e d bP bQ v) (vP : num bP = p) (vQ : num bQ = q) (lN : (encT m).length ≤ 256) (lD : (encT d).length ≤ 256) (lP : bP.length ≤ 256) (lQ : bQ.length ≤ 256) (K : KeyN m e d p q dp dq (qiOf p q)) (hqi : qiOf p q = qi) :
    Calls Try.prog 5 #[v] w (ExpL m e d p q dp dq qi w) := by
  have PR := Lib.hid (fun w (v : Value) hv => private_any w m e d p q dp dq bP bQ v hv vP vQ lN lD lP lQ K)
  have mb := K.mb
  have pb := K.pb
  have qb := K.qb
  have hdm := Nat.le_of_lt K.dm
  have hqp : qi ≤ p := by rw [← hqi]; exact Nat.le_of_lt (Nat.mod_lt _ (by have := K.p3; omega))
  have EX := Lib.hid (fun w pk hpk => export_nm w pk m e d p q dp dq qi hpk hdm hqp mb pb qb)
  rw [hqi] at PR
  have b1 := bitLen_mono (Nat.sub_le p 1)
  have b2 := bitLen_mono (Nat.sub_le q 1)
  unfold ExpB at EX
  unfold ExpL
  obtain ⟨SN, hSN⟩ : ∃ SN, ((bitLen m + 7) / 8) = SN := ⟨_, rfl⟩
  obtain ⟨SP, hSP⟩ : ∃ SP, ((bitLen p + 7) / 8) = SP := ⟨_, rfl⟩
  obtain ⟨SQ, hSQ⟩ : ∃ SQ, ((bitLen q + 7) / 8) = SQ := ⟨_, rfl⟩
  obtain ⟨S1, hS1⟩ : ∃ S1, ((bitLen (p - 1) + 7) / 8) = S1 := ⟨_, rfl⟩
  obtain ⟨S2, hS2⟩ : ∃ S2, ((bitLen (q - 1) + 7) / 8) = S2 := ⟨_, rfl⟩
  rw [hSN, hSP, hSQ, hS1, hS2]
  simp only [hSN, hSP, hSQ, hS1, hS2] at EX
  have SZ : Hid (SN ≤ 256 ∧ SP ≤ 75 ∧ SQ ≤ 75 ∧ S1 ≤ 75 ∧ S2 ≤ 75) := Lib.hid (by omega)
  have HV := Lib.hid hv
  clear K mb pb qb hdm hqp hqi b1 b2 hSN hSP hSQ hS1 hS2 vP vQ lN lD lP lQ
  obtain ⟨aN, aD, aP, aQ, cN, cD, cP, cQ, rfl, hN, hD, hP, hQ, kN, kD, kP, kQ⟩ := hv
  clear hN hD hP hQ kN kD kP kQ
  obtain ⟨w0, hw0⟩ : ∃ w0, w.alloc (.cells #[.slice aN (encT m).length cN, .int .i64 (e : Int), .slice aD (encT d).length cD, .slice aP bP.length cP, .slice aQ bQ.length cQ] 24) = w0 := ⟨_, rfl⟩
  have hb := Blk.new w 24 #[.slice aN (encT m).length cN, .int .i64 (e : Int), .slice aD (encT d).length cD, .slice aP bP.length cP, .slice aQ bQ.length cQ]
  rw [hw0] at hb
  have k0 : Kept NoBlk w w0 := by rw [← hw0]; exact (Kept.refl _ w).alloc _
  have y0 : w0.cell? ⟨w.heap.size, 0, none⟩ = some (.slice aN (encT m).length cN) := hb.cellIs rfl
  have y1 : w0.cell? ⟨w.heap.size, 1, none⟩ = some (.int .i64 (e : Int)) := hb.cellIs rfl
  have y2 : w0.cell? ⟨w.heap.size, 2, none⟩ = some (.slice aD (encT d).length cD) := hb.cellIs rfl
  have y3 : w0.cell? ⟨w.heap.size, 3, none⟩ = some (.slice aP bP.length cP) := hb.cellIs rfl
  have y4 : w0.cell? ⟨w.heap.size, 4, none⟩ = some (.slice aQ bQ.length cQ) := hb.cellIs rfl
  have C1 := Lib.hid (PR.out w0 _ (KeyV.still HV.out k0))
  have K0 := Lib.hid k0
  clear hb k0 HV PR
  go_enter Try.func5, Try.ntmps5
  go_wp2_with fail
  refine C1.out.mono ?_
  rintro x w1 ⟨pk, rfl, hpk, k1⟩
  have C2 := Lib.hid (EX.out w1 pk hpk)
  have K1 := Lib.hid (K0.out.none k1)
  clear hpk k1 C1 EX K0 y0 y1 y2 y3 y4
  go_wp2_with fail
  refine C2.out.mono ?_
  rintro x w2 ⟨gN, gD, gP, gQ, gI, A1, A2, c1, c2, rfl, f0, f1, f2, f3, f4, f5, f6, g4, g5, k2⟩
  have K2 := Lib.hid (K1.out.none k2)
  have F0 := Lib.hid f0
  have F1 := Lib.hid f1
  have F2 := Lib.hid f2
  have F3 := Lib.hid f3
  have F4 := Lib.hid f4
  have F5 := Lib.hid f5
  have F6 := Lib.hid f6
  clear f0 f1 f2 f3 f4 f5 f6 g4 g5 k2 C2 K1
  have hc := copied_any w2 (some ⟨gN, 0, none⟩) SN (enc SN m) F0.out (by rw [enc_length]; have := SZ.out; omega)
  rw [enc_length] at hc
  have C0 := Lib.hid hc
  clear hc
  go_wp2_with fail
  refine C0.out.mono ?_
  rintro x w3 ⟨v0, rfl, o0, k⟩
  rw [enc_length] at o0
  obtain ⟨B0, d0, rfl, e0, _, t0, _⟩ := own_form o0
  replace F1 := Lib.hid (F1.out.still k)
  replace F2 := Lib.hid (F2.out.still k)
  replace F3 := Lib.hid (F3.out.still k)
  replace F4 := Lib.hid (F4.out.still k)
  replace F5 := Lib.hid (F5.out.still k)
  replace F6 := Lib.hid (F6.out.still k)
  have T0 : Hid (BytesAt w3 B0 (enc SN m)) := Lib.hid t0
  have E0 := Lib.hid e0
  replace K2 := Lib.hid (K2.out.none k)
  clear t0 o0 e0 k C0 F0
  have hc := copied_any w3 (some ⟨gD, 0, none⟩) SN (enc SN d) F1.out (by rw [enc_length]; have := SZ.out; omega)
  rw [enc_length] at hc
  have C1 := Lib.hid hc
  clear hc
  go_wp2_with fail
  refine C1.out.mono ?_
  rintro x w4 ⟨v1, rfl, o1, k⟩
  rw [enc_length] at o1
  obtain ⟨B1, d1, rfl, e1, _, t1, _⟩ := own_form o1
  replace F2 := Lib.hid (F2.out.still k)
  replace F3 := Lib.hid (F3.out.still k)
  replace F4 := Lib.hid (F4.out.still k)
  replace F5 := Lib.hid (F5.out.still k)
  replace F6 := Lib.hid (F6.out.still k)
  replace T0 := Lib.hid (T0.out.still k)
  have T1 : Hid (BytesAt w4 B1 (enc SN d)) := Lib.hid t1
  have E1 := Lib.hid e1
  replace K2 := Lib.hid (K2.out.none k)
  clear t1 o1 e1 k C1 F1
  have hc := copied_any w4 (some ⟨gP, 0, none⟩) SP (enc SP p) F2.out (by rw [enc_length]; have := SZ.out; omega)
  rw [enc_length] at hc
  have C2 := Lib.hid hc
  clear hc
  go_wp2_with fail
  refine C2.out.mono ?_
  rintro x w5 ⟨v2, rfl, o2, k⟩
  rw [enc_length] at o2
  obtain ⟨B2, d2, rfl, e2, _, t2, _⟩ := own_form o2
  replace F3 := Lib.hid (F3.out.still k)
  replace F4 := Lib.hid (F4.out.still k)
  replace F5 := Lib.hid (F5.out.still k)
  replace F6 := Lib.hid (F6.out.still k)
  replace T0 := Lib.hid (T0.out.still k)
  replace T1 := Lib.hid (T1.out.still k)
  have T2 : Hid (BytesAt w5 B2 (enc SP p)) := Lib.hid t2
  have E2 := Lib.hid e2
  replace K2 := Lib.hid (K2.out.none k)
  clear t2 o2 e2 k C2 F2
  have hc := copied_any w5 (some ⟨gQ, 0, none⟩) SQ (enc SQ q) F3.out (by rw [enc_length]; have := SZ.out; omega)
  rw [enc_length] at hc
  have C3 := Lib.hid hc
  clear hc
  go_wp2_with fail
  refine C3.out.mono ?_
  rintro x w6 ⟨v3, rfl, o3, k⟩
  rw [enc_length] at o3
  obtain ⟨B3, d3, rfl, e3, _, t3, _⟩ := own_form o3
  replace F4 := Lib.hid (F4.out.still k)
  replace F5 := Lib.hid (F5.out.still k)
  replace F6 := Lib.hid (F6.out.still k)
  replace T0 := Lib.hid (T0.out.still k)
  replace T1 := Lib.hid (T1.out.still k)
  replace T2 := Lib.hid (T2.out.still k)
  have T3 : Hid (BytesAt w6 B3 (enc SQ q)) := Lib.hid t3
  have E3 := Lib.hid e3
  replace K2 := Lib.hid (K2.out.none k)
  clear t3 o3 e3 k C3 F3
  have hc := copied_any w6 (A1) c1 (enc S1 dp) F4.out (by rw [enc_length]; have := SZ.out; omega)
  rw [enc_length] at hc
  have C4 := Lib.hid hc
  clear hc
  go_wp2_with fail
  refine C4.out.mono ?_
  rintro x w7 ⟨v4, rfl, o4, k⟩
  rw [enc_length] at o4
  obtain ⟨B4, d4, rfl, e4, _, t4, _⟩ := own_form o4
  replace F5 := Lib.hid (F5.out.still k)
  replace F6 := Lib.hid (F6.out.still k)
  replace T0 := Lib.hid (T0.out.still k)
  replace T1 := Lib.hid (T1.out.still k)
  replace T2 := Lib.hid (T2.out.still k)
  replace T3 := Lib.hid (T3.out.still k)
  have T4 : Hid (BytesAt w7 B4 (enc S1 dp)) := Lib.hid t4
  have E4 := Lib.hid e4
  replace K2 := Lib.hid (K2.out.none k)
  clear t4 o4 e4 k C4 F4
  have hc := copied_any w7 (A2) c2 (enc S2 dq) F5.out (by rw [enc_length]; have := SZ.out; omega)
  rw [enc_length] at hc
  have C5 := Lib.hid hc
  clear hc
  go_wp2_with fail
  refine C5.out.mono ?_
  rintro x w8 ⟨v5, rfl, o5, k⟩
  rw [enc_length] at o5
  obtain ⟨B5, d5, rfl, e5, _, t5, _⟩ := own_form o5
  replace F6 := Lib.hid (F6.out.still k)
  replace T0 := Lib.hid (T0.out.still k)
  replace T1 := Lib.hid (T1.out.still k)
  replace T2 := Lib.hid (T2.out.still k)
  replace T3 := Lib.hid (T3.out.still k)
  replace T4 := Lib.hid (T4.out.still k)
  have T5 : Hid (BytesAt w8 B5 (enc S2 dq)) := Lib.hid t5
  have E5 := Lib.hid e5
  replace K2 := Lib.hid (K2.out.none k)
  clear t5 o5 e5 k C5 F5
  have hc := copied_any w8 (some ⟨gI, 0, none⟩) SP (enc SP qi) F6.out (by rw [enc_length]; have := SZ.out; omega)
  rw [enc_length] at hc
  have C6 := Lib.hid hc
  clear hc
  go_wp2_with fail
  refine C6.out.mono ?_
  rintro x w9 ⟨v6, rfl, o6, k⟩
  rw [enc_length] at o6
  obtain ⟨B6, d6, rfl, e6, _, t6, _⟩ := own_form o6
  replace T0 := Lib.hid (T0.out.still k)
  replace T1 := Lib.hid (T1.out.still k)
  replace T2 := Lib.hid (T2.out.still k)
  replace T3 := Lib.hid (T3.out.still k)
  replace T4 := Lib.hid (T4.out.still k)
  replace T5 := Lib.hid (T5.out.still k)
  have T6 : Hid (BytesAt w9 B6 (enc SP qi)) := Lib.hid t6
  have E6 := Lib.hid e6
  replace K2 := Lib.hid (K2.out.none k)
  clear t6 o6 e6 k C6 F6
  go_wp2_with fail
  have k : Kept NoBlk w9 (w9.alloc (.cells #[.slice B0 SN d0, .slice B1 SN d1, .slice B2 SP d2, .slice B3 SQ d3, .slice B4 S1 d4, .slice B5 S2 d5, .slice B6 SP d6] 22)) := (Kept.refl _ _).alloc _
  go_ret3
  exact ⟨w9.heap.size, B0, B1, B2, B3, B4, B5, B6, d0, d1, d2, d3, d4, d5, d6, rfl, K2.out.size, Blk.new w9 _ _, T0.out.still k, T1.out.still k, T2.out.still k, T3.out.still k, T4.out.still k, T5.out.still k, T6.out.still k, E0.out, E1.out, E2.out, E3.out, E4.out, E5.out, E6.out, K2.out.none k⟩

end Go.Proofs.Ytdmpiecdpdknaaa
