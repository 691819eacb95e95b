/-
  The walk of FnPrecomputed (printed by gen_keylaws.py).
-/
import Derived.Test.YtdmpiecdpdknaaaDoorKeyPre
namespace Go.Proofs.YtdmpiecdpdknaaaDoor
open Go.RowKit

set_option maxHeartbeats 4000000 in
set_option maxRecDepth 20000 in
theorem fnPrecomputed_walk (a : Int) (D : Option Addr) (cap : Nat) (dig : List UInt8) (w : World) (ha0 : 0 ≤ a) (ha1 : a ≤ 255) (hd : BytesAt w D dig) (_hc : dig.length ≤ cap) (_hm : cap ≤ maxLen) :
    Calls Tryd.prog 6 #[.int .u8 a, .slice D dig.length cap] w fun e w' => e = .returned (.bool true) ∧ Kept NoBlk w w' := by
  unfold maxLen at _hm
  by_cases h1 : 2147483647 < dig.length
  · go_enter Tryd.func6, Tryd.ntmps6
    go_wp2_with fail
    go_ret
    exact ⟨rfl, Kept.refl _ _⟩
  have hbey := beyond_any w.heap.size [dig.length] (w.alloc (.cells #[.int .i64 dig.length] 3))
    (at_new w 3 ([dig.length].map fun (n : Nat) => Value.int .i64 (n : Int))) (by simp)
  by_cases h2 : 1048576 < dig.length
  · rw [show ([dig.length].any fun n => decide (1048576 < n)) = true by simpa using h2] at hbey
    have HB := Lib.hid hbey
    clear hbey
    go_enter Tryd.func6, Tryd.ntmps6
    go_wp2_with fail
    refine HB.out.mono ?_
    rintro e w' ⟨rfl, rfl⟩
    go_wp2_with fail
    go_ret
    exact ⟨rfl, (Kept.refl _ _).alloc _⟩
  rw [show ([dig.length].any fun n => decide (1048576 < n)) = false by simp; omega] at hbey
  have HB := Lib.hid hbey
  clear hbey
  obtain ⟨k, rfl⟩ := Int.eq_ofNat_of_zero_le ha0
  have hk : k < 256 := by omega
  have HD := Lib.hid hd
  have hlen := duo_len k hk
  have HK := Lib.hid (fun w => keyOf_any k hk w)
  have duo := duo k hk
  generalize e1 k = ea at *
  generalize e2 k = eb at *
  obtain ⟨m, hm⟩ : ∃ m, Mp ea * Mp eb = m := ⟨_, rfl⟩
  rw [hm] at hlen
  obtain ⟨hl1, hl2, hm1, hmo⟩ := hlen
  obtain ⟨L, hL⟩ : ∃ L, (bitLen m + 7) / 8 = L := ⟨_, rfl⟩
  rw [hL] at hl1 hl2
  have DEC := Lib.hid (duo.decL hm hL)
  have ENC := Lib.hid (duo.encL hm hL)
  obtain ⟨S1, S2, SP, xU, xV, xI, hexp, hpre⟩ := duo.expre hm hL
  have EXP := Lib.hid hexp
  have PRC := Lib.hid hpre
  clear hexp hpre
  have BTH : Hid (∀ e, e = 65537 → ∀ c, c < m → (c ^ e % m) ^ secOf ea eb % m = c) := Lib.hid (by rw [← hm]; exact duo.backth)
  have FTH : Hid (∀ e, e = 65537 → ∀ c, c < m → (c ^ secOf ea eb % m) ^ e % m = c) := Lib.hid (by rw [← hm]; exact duo.forth)
  have MOD : Hid (∀ v, v % m < m) := Lib.hid (fun v => Nat.mod_lt _ (by omega))
  have HLL := Lib.hid hl1
  have HLB := Lib.hid hL
  have HMM := Lib.hid hm
  clear hd hl1 hL hmo duo hm
  go_enter Tryd.func6, Tryd.ntmps6
  go_wp2_with fail
  refine HB.out.mono ?_
  rintro e w' ⟨rfl, rfl⟩
  clear HB
  go_wp2_with fail
  refine (HK.out _).mono ?_
  rintro e w1 ⟨v, rfl, hkey, k1⟩
  have hkey' := hkey
  obtain ⟨aN, aD, aP, aQ, cN, cD, cP, cQ, rfl, hN, hD', hP, hQ, kN, kD, kP, kQ⟩ := hkey
  rw [HMM.out] at hN kN hkey' ⊢
  rw [HLL.out] at kN hkey' ⊢
  generalize (encT (secOf ea eb)).length = LD at *
  generalize (mers ea).length = LP at *
  generalize (mers eb).length = LQ at *
  have K1 := Lib.hid (((Kept.refl NoBlk w).alloc (.cells #[.int .i64 dig.length] 3)).none k1)
  have HKEY1 : Hid (KeyAt ea eb w1 (.agg #[.slice aN L cN, .int .i64 65537, .slice aD LD cD, .slice aP LP cP, .slice aQ LQ cQ])) := Lib.hid hkey'
  have HN1 := Lib.hid hN
  clear k1 HK hD' hP hQ kP kQ kD hkey' hN
  obtain ⟨w2, hw2⟩ : ∃ w2, w1.alloc (.cells #[.slice aN L cN, .int .i64 65537, .slice aD LD cD, .slice aP LP cP, .slice aQ LQ cQ] 25) = w2 := ⟨_, rfl⟩
  have hb := Blk.new w1 25 #[.slice aN L cN, .int .i64 65537, .slice aD LD cD, .slice aP LP cP, .slice aQ LQ cQ]
  rw [hw2] at hb
  have k12 : Kept NoBlk w1 w2 := by rw [← hw2]; exact (Kept.refl _ w1).alloc _
  have HB := Lib.hid hb
  have K2 := Lib.hid (K1.out.none k12)
  have HN := Lib.hid (HN1.out.still k12)
  have HKEY := Lib.hid (HKEY1.out.still k12)
  have y0 : w2.cell? ⟨w1.heap.size, 0, none⟩ = some (.slice aN L cN) := hb.cellIs rfl
  have C1 := Lib.hid (below_any w2 D aN cap cN m L dig (HD.out.still K2.out) HN.out HLL.out _hc kN (by omega) (by omega) (by omega))
  clear hb k12 HN1 HKEY1 K1
  go_wp2_with fail
  refine C1.out.mono ?_
  rintro e w3 ⟨v, gx, hv, rfl, hgx, hbx, k3⟩
  have A_2 := Lib.hid k3
  have HV := Lib.hid hv
  have F_x := Lib.hid hbx.bytes
  clear hv hbx k3 C1 y0 hw2
  have C := Lib.hid (EXP.out w3 _ (HKEY.out.still A_2.out))
  have y0 : w3.cell? ⟨w1.heap.size, 0, none⟩ = some (.slice aN L cN) := (HB.out.kept A_2.out (fun e => e)).cellIs rfl
  have y1 : w3.cell? ⟨w1.heap.size, 1, none⟩ = some (.int .i64 65537) := (HB.out.kept A_2.out (fun e => e)).cellIs rfl
  have y2 : w3.cell? ⟨w1.heap.size, 2, none⟩ = some (.slice aD LD cD) := (HB.out.kept A_2.out (fun e => e)).cellIs rfl
  have y3 : w3.cell? ⟨w1.heap.size, 3, none⟩ = some (.slice aP LP cP) := (HB.out.kept A_2.out (fun e => e)).cellIs rfl
  have y4 : w3.cell? ⟨w1.heap.size, 4, none⟩ = some (.slice aQ LQ cQ) := (HB.out.kept A_2.out (fun e => e)).cellIs rfl
  go_wp2_with fail
  refine C.out.mono ?_
  rintro e w4 ⟨gl, A0, A1, A2, A3, A4, A5, A6, l0, l1, l2, l3, c0, c1, c2, c3, c4, c5, c6, rfl, hbl, tU, tV, tI, k⟩
  replace F_x := Lib.hid (F_x.out.still k)
  replace A_2 := Lib.hid (A_2.out.none k)
  have HBL := Lib.hid hbl
  have TU := Lib.hid tU
  have TV := Lib.hid tV
  have TI := Lib.hid tI
  clear C y0 y1 y2 y3 y4 k hbl tU tV tI
  have y0 : w4.cell? ⟨w1.heap.size, 0, none⟩ = some (.slice aN L cN) := (HB.out.kept A_2.out (fun e => e)).cellIs rfl
  have y1 : w4.cell? ⟨w1.heap.size, 1, none⟩ = some (.int .i64 65537) := (HB.out.kept A_2.out (fun e => e)).cellIs rfl
  have y2 : w4.cell? ⟨w1.heap.size, 2, none⟩ = some (.slice aD LD cD) := (HB.out.kept A_2.out (fun e => e)).cellIs rfl
  have y3 : w4.cell? ⟨w1.heap.size, 3, none⟩ = some (.slice aP LP cP) := (HB.out.kept A_2.out (fun e => e)).cellIs rfl
  have y4 : w4.cell? ⟨w1.heap.size, 4, none⟩ = some (.slice aQ LQ cQ) := (HB.out.kept A_2.out (fun e => e)).cellIs rfl
  have z4 : w4.cell? ⟨gl, 4, none⟩ = some (.slice A4 S1 c4) := HBL.out.cellIs rfl
  have z5 : w4.cell? ⟨gl, 5, none⟩ = some (.slice A5 S2 c5) := HBL.out.cellIs rfl
  have z6 : w4.cell? ⟨gl, 6, none⟩ = some (.slice A6 SP c6) := HBL.out.cellIs rfl
  have CC := Lib.hid (PRC.out w4.drew _ (HKEY.out.still A_2.out.drew) A4 A5 A6 (some ⟨gx, 0, none⟩) c4 c5 c6 L v HV.out (BytesAt.still TU.out ((Kept.refl NoBlk w4).drew)) (BytesAt.still TV.out ((Kept.refl NoBlk w4).drew)) (BytesAt.still TI.out ((Kept.refl NoBlk w4).drew)) (BytesAt.still F_x.out ((Kept.refl NoBlk w4).drew)))
  go_wp2_with fail
  go_region_held3 (fun w' => w'.cell? ⟨w1.heap.size, 0, none⟩ = some (.slice aN L cN) ∧ w'.cell? ⟨w1.heap.size, 1, none⟩ = some (.int .i64 65537) ∧ w'.cell? ⟨w1.heap.size, 2, none⟩ = some (.slice aD LD cD) ∧ w'.cell? ⟨w1.heap.size, 3, none⟩ = some (.slice aP LP cP) ∧ w'.cell? ⟨w1.heap.size, 4, none⟩ = some (.slice aQ LQ cQ) ∧ w'.cell? ⟨gl, 4, none⟩ = some (.slice A4 S1 c4) ∧ w'.cell? ⟨gl, 5, none⟩ = some (.slice A5 S2 c5) ∧ w'.cell? ⟨gl, 6, none⟩ = some (.slice A6 SP c6)) (exact ⟨by assumption, by assumption, by assumption, by assumption, by assumption, by assumption, by assumption, by assumption⟩) (first | (go_at_call 14; refine CC.out.mono ?_; rintro e w5 ⟨Ap, cp, gp, rfl, hg, ho, hat, hcp, k'⟩; have k : Kept NoBlk w4 w5 := ((Kept.refl NoBlk w4).drew).trans k'; have hb5 := HB.out.kept (A_2.out.none k) (fun e => e); have hl5 := HBL.out.kept k (fun e => e); have r0 : w5.cell? ⟨w1.heap.size, 0, none⟩ = some (.slice aN L cN) := hb5.cellIs rfl; have r1 : w5.cell? ⟨w1.heap.size, 1, none⟩ = some (.int .i64 65537) := hb5.cellIs rfl; have r2 : w5.cell? ⟨w1.heap.size, 2, none⟩ = some (.slice aD LD cD) := hb5.cellIs rfl; have r3 : w5.cell? ⟨w1.heap.size, 3, none⟩ = some (.slice aP LP cP) := hb5.cellIs rfl; have r4 : w5.cell? ⟨w1.heap.size, 4, none⟩ = some (.slice aQ LQ cQ) := hb5.cellIs rfl; have s4 : w5.cell? ⟨gl, 4, none⟩ = some (.slice A4 S1 c4) := hl5.cellIs rfl; have s5 : w5.cell? ⟨gl, 5, none⟩ = some (.slice A5 S2 c5) := hl5.cellIs rfl; have s6 : w5.cell? ⟨gl, 6, none⟩ = some (.slice A6 SP c6) := hl5.cellIs rfl))
  replace F_x := Lib.hid (F_x.out.still k)
  replace A_2 := Lib.hid (A_2.out.none k)
  have F_p := Lib.hid hat
  clear CC hat hg ho k k' hb5 hl5 y0 y1 y2 y3 y4 z4 z5 z6 r0 r1 r2 r3 r4 s4 s5 s6 HBL TU TV TI EXP PRC
  have C := Lib.hid (DEC.out w5 _ (HKEY.out.still A_2.out) true false (some ⟨gx, 0, none⟩) L v HV.out F_x.out)
  have y0 : w5.cell? ⟨w1.heap.size, 0, none⟩ = some (.slice aN L cN) := (HB.out.kept A_2.out (fun e => e)).cellIs rfl
  have y1 : w5.cell? ⟨w1.heap.size, 1, none⟩ = some (.int .i64 65537) := (HB.out.kept A_2.out (fun e => e)).cellIs rfl
  have y2 : w5.cell? ⟨w1.heap.size, 2, none⟩ = some (.slice aD LD cD) := (HB.out.kept A_2.out (fun e => e)).cellIs rfl
  have y3 : w5.cell? ⟨w1.heap.size, 3, none⟩ = some (.slice aP LP cP) := (HB.out.kept A_2.out (fun e => e)).cellIs rfl
  have y4 : w5.cell? ⟨w1.heap.size, 4, none⟩ = some (.slice aQ LQ cQ) := (HB.out.kept A_2.out (fun e => e)).cellIs rfl
  go_wp2_with fail
  refine C.out.mono ?_
  rintro e w6 ⟨Aq, cq, gq, rfl, hg, ho, hat, hcq, k⟩
  replace F_x := Lib.hid (F_x.out.still k)
  replace F_p := Lib.hid (F_p.out.still k)
  replace A_2 := Lib.hid (A_2.out.none k)
  have F_q := Lib.hid hat
  clear C y0 y1 y2 y3 y4 k hat hg ho
  have hll : ((L : Int) == (L : Int)) = true := beq_self_eq_true _
  have hs := same_any w6 Ap Aq cp cq (enc L (v ^ secOf ea eb % m)) (enc L (v ^ secOf ea eb % m)) F_p.out F_q.out
  rw [beq_self_eq_true, enc_length] at hs
  have C := Lib.hid hs
  clear hs
  have y0 : w6.cell? ⟨w1.heap.size, 0, none⟩ = some (.slice aN L cN) := (HB.out.kept A_2.out (fun e => e)).cellIs rfl
  have y1 : w6.cell? ⟨w1.heap.size, 1, none⟩ = some (.int .i64 65537) := (HB.out.kept A_2.out (fun e => e)).cellIs rfl
  have y2 : w6.cell? ⟨w1.heap.size, 2, none⟩ = some (.slice aD LD cD) := (HB.out.kept A_2.out (fun e => e)).cellIs rfl
  have y3 : w6.cell? ⟨w1.heap.size, 3, none⟩ = some (.slice aP LP cP) := (HB.out.kept A_2.out (fun e => e)).cellIs rfl
  have y4 : w6.cell? ⟨w1.heap.size, 4, none⟩ = some (.slice aQ LQ cQ) := (HB.out.kept A_2.out (fun e => e)).cellIs rfl
  go_wp2_with fail
  refine C.out.mono ?_
  rintro e w' ⟨rfl, rfl⟩
  clear C y0 y1 y2 y3 y4
  go_wp2_with fail
  go_ret
  exact ⟨rfl, K2.out.none A_2.out⟩

end Go.Proofs.YtdmpiecdpdknaaaDoor
