/-
  The walk of FnExported.
-/
import Derived.Test.YtdmpiecdpdknaaaExported
import Derived.Test.YtdmpiecdpdknaaaKeyOf
import Derived.Test.YtdmpiecdpdknaaaSpecI
namespace Go.Proofs.Ytdmpiecdpdknaaa
open Go.RowKit

theorem encV {m v : Nat} (h : v ≤ m) : num (enc ((bitLen m + 7) / 8) v) = v := encNum h

/-- The law's table: what is told, and what it should be. -/
def Told (gl g4 : Nat) (w : World) : Prop := ∀ i, i < 4 → ∃ (A A' : Option Addr) (c c' : Nat) (xs ys : List UInt8), w.cell? ⟨gl, i, none⟩ = some (.slice A xs.length c) ∧ w.cell? ⟨g4, i, none⟩ = some (.slice A' ys.length c') ∧ BytesAt w A xs ∧ BytesAt w A' ys ∧ xs.length ≤ c ∧ ys.length ≤ c' ∧ xs.length ≤ 1000 ∧ ys.length ≤ 1000 ∧ num xs = num ys

theorem told_of {w : World} {gl g4 t : Nat} {m d p q LN LD LP LQ SN SP SQ : Nat} {cs ds : Array Value} {A0 A1 A2 A3 B0 B1 B2 B3 : Option Addr} {c0 c1 c2 c3 d0 d1 d2 d3 : Nat} {y0 y1 y2 y3 : List UInt8}
    (h : Blk w gl t cs) (h' : Blk w g4 t ds)
    (i0 : cs[0]? = some (.slice A0 SN c0)) (i1 : cs[1]? = some (.slice A1 SN c1)) (i2 : cs[2]? = some (.slice A2 SP c2)) (i3 : cs[3]? = some (.slice A3 SQ c3))
    (j0 : ds[0]? = some (.slice B0 LN d0)) (j1 : ds[1]? = some (.slice B1 LD d1)) (j2 : ds[2]? = some (.slice B2 LP d2)) (j3 : ds[3]? = some (.slice B3 LQ d3))
    (t0 : BytesAt w A0 (enc SN m)) (t1 : BytesAt w A1 (enc SN d)) (t2 : BytesAt w A2 (enc SP p)) (t3 : BytesAt w A3 (enc SQ q))
    (s0 : BytesAt w B0 y0) (s1 : BytesAt w B1 y1) (s2 : BytesAt w B2 y2) (s3 : BytesAt w B3 y3)
    (l0 : y0.length = LN) (l1 : y1.length = LD) (l2 : y2.length = LP) (l3 : y3.length = LQ)
    (n0 : num (enc SN m) = num y0) (n1 : num (enc SN d) = num y1) (n2 : num (enc SP p) = num y2) (n3 : num (enc SQ q) = num y3)
    (a0 : SN ≤ c0) (a1 : SN ≤ c1) (a2 : SP ≤ c2) (a3 : SQ ≤ c3) (b0 : LN ≤ d0) (b1 : LD ≤ d1) (b2 : LP ≤ d2) (b3 : LQ ≤ d3)
    (z : SN ≤ 1000 ∧ SP ≤ 1000 ∧ SQ ≤ 1000 ∧ LN ≤ 1000 ∧ LD ≤ 1000 ∧ LP ≤ 1000 ∧ LQ ≤ 1000) : Told gl g4 w := by
  subst l0 l1 l2 l3
  obtain ⟨z1, z2, z3, z4, z5, z6, z7⟩ := z
  intro i hi
  match i, hi with
  | 0, _ => exact ⟨A0, B0, c0, d0, _, _, (h.cellIs (by rw [enc_length]; exact i0)), h'.cellIs j0, t0, s0, by rw [enc_length]; exact a0, b0, by rw [enc_length]; exact z1, z4, n0⟩
  | 1, _ => exact ⟨A1, B1, c1, d1, _, _, (h.cellIs (by rw [enc_length]; exact i1)), h'.cellIs j1, t1, s1, by rw [enc_length]; exact a1, b1, by rw [enc_length]; exact z1, z5, n1⟩
  | 2, _ => exact ⟨A2, B2, c2, d2, _, _, (h.cellIs (by rw [enc_length]; exact i2)), h'.cellIs j2, t2, s2, by rw [enc_length]; exact a2, b2, by rw [enc_length]; exact z2, z6, n2⟩
  | 3, _ => exact ⟨A3, B3, c3, d3, _, _, (h.cellIs (by rw [enc_length]; exact i3)), h'.cellIs j3, t3, s3, by rw [enc_length]; exact a3, b3, by rw [enc_length]; exact z3, z7, n3⟩

set_option maxHeartbeats 4000000 in
set_option maxRecDepth 20000 in
theorem fnExported_walk (a : Int) (w : World) (ha0 : 0 ≤ a) (ha1 : a ≤ 255) :
    Calls Try.prog 3 #[.int .u8 a] w fun e w' => e = .returned (.bool true) ∧ Kept NoBlk w w' := by
  obtain ⟨k, rfl⟩ := Int.eq_ofNat_of_zero_le ha0
  have hk : k < 256 := by omega
  have HK := Lib.hid (keyOf_any k hk w)
  have duo := duo k hk
  generalize e1 k = ea at *
  generalize e2 k = eb at *
  have K := duo.keyN
  have hna := duo.na
  have hnb := duo.nb
  have hla := duo.la
  have hlb := duo.lb
  have hsum := duo.sum
  have hinv := K.inv
  unfold GaveK KeyAt at HK
  obtain ⟨qi, hqi⟩ : ∃ qi, qiOf (Mp ea) (Mp eb) = qi := ⟨_, rfl⟩
  obtain ⟨d, hd⟩ : ∃ d, secOf ea eb = d := ⟨_, rfl⟩
  obtain ⟨p, hp⟩ : ∃ p, Mp ea = p := ⟨_, rfl⟩
  obtain ⟨q, hq⟩ : ∃ q, Mp eb = q := ⟨_, rfl⟩
  rw [hd] at K HK
  rw [hp, hq] at K HK hinv hqi
  rw [hqi] at hinv
  rw [hp] at hna
  rw [hq] at hnb
  obtain ⟨m, hm⟩ : ∃ m, p * q = m := ⟨_, rfl⟩
  rw [hm] at K HK
  obtain ⟨e, he⟩ : ∃ e : Nat, e = 65537 := ⟨_, rfl⟩
  rw [← he] at K HK
  obtain ⟨dp, hdp⟩ : ∃ dp, d % (p - 1) = dp := ⟨_, rfl⟩
  obtain ⟨dq, hdq⟩ : ∃ dq, d % (q - 1) = dq := ⟨_, rfl⟩
  rw [hdp, hdq] at K
  obtain ⟨xP, hxP⟩ : ∃ xP, mers ea = xP := ⟨_, rfl⟩
  obtain ⟨xQ, hxQ⟩ : ∃ xQ, mers eb = xQ := ⟨_, rfl⟩
  rw [hxP] at hna hla HK
  rw [hxQ] at hnb hlb HK
  clear duo hd hp hq hm hxP hxQ
  have mb := K.mb
  have pb := K.pb
  have qb := K.qb
  have dm := K.dm
  have p3 := K.p3
  have q3 := K.q3
  have lN : (encT m).length ≤ 256 := by rw [encT_length_bits]; omega
  have lD : (encT d).length ≤ 256 := by
    rw [encT_length_bits]
    have := bitLen_mono (Nat.le_of_lt dm)
    omega
  have lP : xP.length ≤ 256 := by omega
  have lQ : xQ.length ≤ 256 := by omega
  have hqip : qi < p := by rw [← hqi]; exact Nat.mod_lt _ (by omega)
  have EX := Lib.hid (fun w v hv => exported_nm w m e d p q dp dq qi xP xQ v hv hna hnb lN lD lP lQ K hqi)
  unfold ExpL at EX
  have b1 := bitLen_mono (Nat.sub_le p 1)
  have b2 := bitLen_mono (Nat.sub_le q 1)
  have TN : Hid (num (enc ((bitLen m + 7) / 8) m) = num (encT m)) := Lib.hid (by rw [encNum (Nat.le_refl _), num_encT])
  have TD : Hid (num (enc ((bitLen m + 7) / 8) d) = num (encT d)) := Lib.hid (by rw [encNum (Nat.le_of_lt dm), num_encT])
  have TP : Hid (num (enc ((bitLen p + 7) / 8) p) = num xP) := Lib.hid (by rw [encNum (Nat.le_refl _), hna])
  have TQ : Hid (num (enc ((bitLen q + 7) / 8) q) = num xQ) := Lib.hid (by rw [encNum (Nat.le_refl _), hnb])
  have TU : Hid (num (enc ((bitLen (p - 1) + 7) / 8) dp) = num (encT d) % (num xP - 1)) := Lib.hid (by rw [encNum (by rw [← hdp]; exact Nat.le_of_lt (Nat.mod_lt _ (by omega))), num_encT, hna, hdp])
  have TV : Hid (num (enc ((bitLen (q - 1) + 7) / 8) dq) = num (encT d) % (num xQ - 1)) := Lib.hid (by rw [encNum (by rw [← hdq]; exact Nat.le_of_lt (Nat.mod_lt _ (by omega))), num_encT, hnb, hdq])
  have TI : Hid (num (enc ((bitLen p + 7) / 8) qi) = qi) := Lib.hid (encNum (Nat.le_of_lt hqip))
  have NP : Hid (num xP = p ∧ num xQ = q ∧ 3 < p ∧ 3 < q ∧ qi < p) := Lib.hid ⟨hna, hnb, p3, q3, hqip⟩
  have IN := Lib.hid hinv
  obtain ⟨SN, hSN⟩ : ∃ SN, (bitLen m + 7) / 8 = SN := ⟨_, rfl⟩
  obtain ⟨SP, hSP⟩ : ∃ SP, (bitLen p + 7) / 8 = SP := ⟨_, rfl⟩
  obtain ⟨SQ, hSQ⟩ : ∃ SQ, (bitLen q + 7) / 8 = SQ := ⟨_, rfl⟩
  obtain ⟨S1, hS1⟩ : ∃ S1, (bitLen (p - 1) + 7) / 8 = S1 := ⟨_, rfl⟩
  obtain ⟨S2, hS2⟩ : ∃ S2, (bitLen (q - 1) + 7) / 8 = S2 := ⟨_, rfl⟩
  simp only [hSN, hSP, hSQ, hS1, hS2] at EX
  rw [hSN] at TN TD
  rw [hSP] at TP TI
  rw [hSQ] at TQ
  rw [hS1] at TU
  rw [hS2] at TV
  have SZ : Hid (SN ≤ 256 ∧ SP ≤ 75 ∧ SQ ≤ 75 ∧ S1 ≤ 75 ∧ S2 ≤ 75 ∧ (encT m).length ≤ 256 ∧ (encT d).length ≤ 256 ∧ xP.length ≤ 256 ∧ xQ.length ≤ 256) := Lib.hid ⟨by omega, by omega, by omega, by omega, by omega, lN, lD, lP, lQ⟩
  clear K mb pb qb dm p3 q3 lN lD lP lQ hqip hqi hinv b1 b2 hSN hSP hSQ hS1 hS2 hna hnb hla hlb hsum hdp hdq he
  go_enter Try.func3, Try.ntmps3
  go_wp2_with fail
  refine HK.out.mono ?_
  rintro x w1 ⟨v, rfl, hkey, k1⟩
  have hkey' := hkey
  obtain ⟨aN, aD, aP, aQ, cN, cD, cP, cQ, rfl, hN, hD, hP, hQ, kN, kD, kP, kQ⟩ := hkey
  obtain ⟨LN, hLN⟩ : ∃ LN, (encT m).length = LN := ⟨_, rfl⟩
  obtain ⟨LD, hLD⟩ : ∃ LD, (encT d).length = LD := ⟨_, rfl⟩
  obtain ⟨LP, hLP⟩ : ∃ LP, xP.length = LP := ⟨_, rfl⟩
  obtain ⟨LQ, hLQ⟩ : ∃ LQ, xQ.length = LQ := ⟨_, rfl⟩
  have HLN := Lib.hid hLN
  have HLD := Lib.hid hLD
  have HLP := Lib.hid hLP
  have HLQ := Lib.hid hLQ
  rw [hLN] at kN SZ hkey' ⊢
  rw [hLD] at kD SZ hkey' ⊢
  rw [hLP] at kP SZ hkey' ⊢
  rw [hLQ] at kQ SZ hkey' ⊢
  obtain ⟨w2, hw2⟩ : ∃ w2, w1.alloc (.cells #[.slice aN LN cN, .int .i64 (e : Int), .slice aD LD cD, .slice aP LP cP, .slice aQ LQ cQ] 24) = w2 := ⟨_, rfl⟩
  have hb := Blk.new w1 24 #[.slice aN LN cN, .int .i64 (e : Int), .slice aD LD cD, .slice aP LP cP, .slice aQ LQ cQ]
  rw [hw2] at hb
  have k12 : Kept NoBlk w1 w2 := by rw [← hw2]; exact (Kept.refl _ w1).alloc _
  have y0 : w2.cell? ⟨w1.heap.size, 0, none⟩ = some (.slice aN LN cN) := hb.cellIs rfl
  have y1 : w2.cell? ⟨w1.heap.size, 1, none⟩ = some (.int .i64 (e : Int)) := hb.cellIs rfl
  have y2 : w2.cell? ⟨w1.heap.size, 2, none⟩ = some (.slice aD LD cD) := hb.cellIs rfl
  have y3 : w2.cell? ⟨w1.heap.size, 3, none⟩ = some (.slice aP LP cP) := hb.cellIs rfl
  have y4 : w2.cell? ⟨w1.heap.size, 4, none⟩ = some (.slice aQ LQ cQ) := hb.cellIs rfl
  have C1 := Lib.hid (EX.out w2 _ (KeyV.still hkey' k12))
  have HB := Lib.hid hb
  have K2 := Lib.hid (k1.none k12)
  have HN := Lib.hid (hN.still k12)
  have HD := Lib.hid (hD.still k12)
  have HP := Lib.hid (hP.still k12)
  have HQ := Lib.hid (hQ.still k12)
  have KC := Lib.hid (And.intro kN (And.intro kD (And.intro kP kQ)))
  clear hkey' hN hD hP hQ kN kD kP kQ k1 k12 hb HK EX hLN hLD hLP hLQ
  go_wp2_with fail
  refine C1.out.mono ?_
  rintro x w3 ⟨gl, A0, A1, A2, A3, A4, A5, A6, c0, c1, c2, c3, c4, c5, c6, rfl, hgl, hbl, t0, t1, t2, t3, t4, t5, t6, g0, g1, g2, g3, g4, g5, g6, k3⟩
  have hb3 := HB.out.kept k3 (fun e => e)
  clear y0 y1 y2 y3 y4
  have y0 : w3.cell? ⟨w1.heap.size, 0, none⟩ = some (.slice aN LN cN) := hb3.cellIs rfl
  have y1 : w3.cell? ⟨w1.heap.size, 1, none⟩ = some (.int .i64 (e : Int)) := hb3.cellIs rfl
  have y2 : w3.cell? ⟨w1.heap.size, 2, none⟩ = some (.slice aD LD cD) := hb3.cellIs rfl
  have y3 : w3.cell? ⟨w1.heap.size, 3, none⟩ = some (.slice aP LP cP) := hb3.cellIs rfl
  have y4 : w3.cell? ⟨w1.heap.size, 4, none⟩ = some (.slice aQ LQ cQ) := hb3.cellIs rfl
  obtain ⟨w4, hw4⟩ : ∃ w4, w3.alloc (.cells #[.slice aN LN cN, .slice aD LD cD, .slice aP LP cP, .slice aQ LQ cQ] 22) = w4 := ⟨_, rfl⟩
  have hb4 := Blk.new w3 22 #[.slice aN LN cN, .slice aD LD cD, .slice aP LP cP, .slice aQ LQ cQ]
  rw [hw4] at hb4
  have k34 : Kept NoBlk w3 w4 := by rw [← hw4]; exact (Kept.refl _ w3).alloc _
  have k24 := k3.none k34
  have hbl4 := hbl.kept k34 (fun e => e)
  have htold : Told gl w3.heap.size w4 := told_of hbl4 hb4 rfl rfl rfl rfl rfl rfl rfl rfl (t0.still k34) (t1.still k34) (t2.still k34) (t3.still k34) (HN.out.still k24) (HD.out.still k24) (HP.out.still k24) (HQ.out.still k24) HLN.out HLD.out HLP.out HLQ.out TN.out TD.out TP.out TQ.out g0 g1 g2 g3 KC.out.1 KC.out.2.1 KC.out.2.2.1 KC.out.2.2.2 (by have := SZ.out; omega)
  have TOLD := Lib.hid htold
  have HBL := Lib.hid hbl4
  have HBK := Lib.hid (hb3.kept k34 (fun e => e))
  have T4 := Lib.hid (t4.still k34)
  have T5 := Lib.hid (t5.still k34)
  have T6 := Lib.hid (t6.still k34)
  have G456 := Lib.hid (And.intro g4 (And.intro g5 g6))
  have PD := Lib.hid (HD.out.still k24)
  have PP := Lib.hid (HP.out.still k24)
  have PQ := Lib.hid (HQ.out.still k24)
  have K4 := Lib.hid (K2.out.none k24)
  clear hbl t0 t1 t2 t3 t4 t5 t6 g0 g1 g2 g3 g4 g5 g6 k3 hb3 hb4 k34 k24 hbl4 htold C1 HB K2 HN HD HP HQ hw2 hgl
  go_wp2_with fail
  clear y0 y1 y2 y3 y4
  go_loopw [40] (fun iv wr => ∃ i : Nat, i ≤ 4 ∧ iv = .int .i64 (i : Int) ∧ Kept NoBlk w4 wr) (fun iv _ => 4 - (intOf iv).toNat)
  case atStart => exact ⟨0, Nat.zero_le _, rfl, Kept.refl _ _⟩
  case round =>
    obtain ⟨i, hi, rfl, hk⟩ := hrel
    rcases Nat.lt_or_ge i 4 with hlt | hge
    · obtain ⟨L, L', l, l', xs, ys, hc, hc', hx, hy, hl, hl', hz, hz', hn⟩ := TOLD.out i hlt
      have hblt : gl < w4.heap.size := HBL.out.lt
      have hblt' : w3.heap.size < w4.heap.size := World.block_lt_of_cell? _ _ hc'
      have cx : wr.cell? ⟨gl, i, none⟩ = some (.slice L xs.length l) := (hk.cell (p := ⟨gl, i, none⟩) hblt (fun e => e)).trans hc
      have cy : wr.cell? ⟨w3.heap.size, i, none⟩ = some (.slice L' ys.length l') := (hk.cell (p := ⟨w3.heap.size, i, none⟩) hblt' (fun e => e)).trans hc'
      have h1 := trimmed_any wr L l xs (hx.still hk) hl (by omega)
      rw [trim_eq_encT, hn] at h1
      have HY : Hid (∀ w', Kept NoBlk w4 w' → Calls Try.prog 7 #[.slice L' ys.length l'] w' (GaveB (encT (num ys)) w')) := Lib.hid (fun w' k => by
        have h := trimmed_any w' L' l' ys (hy.still k) hl' (by omega)
        rw [trim_eq_encT] at h
        exact h)
      obtain ⟨T, hT⟩ : ∃ T, encT (num ys) = T := ⟨_, rfl⟩
      rw [hT] at h1 HY
      have H1 := Lib.hid h1
      have HK := Lib.hid hk
      have hi4 : (i : Int) < 4 := by omega
      have hi7 : (i : Int) < 7 := by omega
      clear hc hc' hx hy hl hl' hz hz' hn h1 hT hk hblt hblt'
      go_wp2_with fail
      refine H1.out.mono ?_
      rintro x u1 ⟨B1, d1, rfl, hat1, hc1, k1⟩
      have H2 := Lib.hid (HY.out u1 (HK.out.none k1))
      have HAT1 := Lib.hid hat1
      have HK1 := Lib.hid (HK.out.none k1)
      clear hat1 k1 H1 HY
      go_wp2_with fail
      refine H2.out.mono ?_
      rintro x u2 ⟨B2, d2, rfl, hat2, hc2, k2⟩
      have hs := same_any u2 B1 B2 d1 d2 T T (HAT1.out.still k2) hat2
      rw [beq_self_eq_true] at hs
      have HS := Lib.hid hs
      have HK2 := Lib.hid (HK1.out.none k2)
      clear hat2 k2 hs H2
      go_wp2_with fail
      refine HS.out.mono ?_
      rintro x u3 ⟨rfl, rfl⟩
      clear HS
      go_wp2_with fail
      go_roundw
      case rel => exact ⟨i + 1, by omega, by go_num, HK2.out⟩
      case measure => first | (simp [intOf]; done) | (simp [intOf]; omega)
    · obtain rfl : i = 4 := by omega
      have HBR := Lib.hid (HBK.out.kept hk (fun e => e))
      have HLR := Lib.hid (HBL.out.kept hk (fun e => e))
      have z0_0 : wr.cell? ⟨w1.heap.size, 2, none⟩ = some (.slice aD LD cD) := HBR.out.cellIs rfl
      have z0_1 : wr.cell? ⟨w1.heap.size, 3, none⟩ = some (.slice aP LP cP) := HBR.out.cellIs rfl
      have z0_2 : wr.cell? ⟨w1.heap.size, 4, none⟩ = some (.slice aQ LQ cQ) := HBR.out.cellIs rfl
      have z0_3 : wr.cell? ⟨gl, 4, none⟩ = some (.slice A4 S1 c4) := HLR.out.cellIs rfl
      have z0_4 : wr.cell? ⟨gl, 5, none⟩ = some (.slice A5 S2 c5) := HLR.out.cellIs rfl
      have z0_5 : wr.cell? ⟨gl, 6, none⟩ = some (.slice A6 SP c6) := HLR.out.cellIs rfl
      have R1 : Hid (∀ w', Kept NoBlk wr w' → Calls Try.prog 8 #[.slice aD LD cD, .slice aP LP cP, .slice A4 S1 c4] w' fun e w'' => e = .returned (.bool true) ∧ Kept NoBlk w' w'') := Lib.hid (fun w' k => by
        have kk := hk.none k
        have h := restIs_any w' aD aP A4 cD cP c4 (encT d) xP (enc S1 dp) (PD.out.still kk) (PP.out.still kk) (T4.out.still kk) (by have := SZ.out; have := HLD.out; omega) (by have := SZ.out; have := HLP.out; omega) (by rw [enc_length]; have := SZ.out; omega) (by rw [enc_length]; exact G456.out.1) (by have := NP.out; omega) TU.out
        rw [HLD.out, HLP.out, enc_length] at h
        exact h)
      have R2 : Hid (∀ w', Kept NoBlk wr w' → Calls Try.prog 8 #[.slice aD LD cD, .slice aQ LQ cQ, .slice A5 S2 c5] w' fun e w'' => e = .returned (.bool true) ∧ Kept NoBlk w' w'') := Lib.hid (fun w' k => by
        have kk := hk.none k
        have h := restIs_any w' aD aQ A5 cD cQ c5 (encT d) xQ (enc S2 dq) (PD.out.still kk) (PQ.out.still kk) (T5.out.still kk) (by have := SZ.out; have := HLD.out; omega) (by have := SZ.out; have := HLQ.out; omega) (by rw [enc_length]; have := SZ.out; omega) (by rw [enc_length]; exact G456.out.2.1) (by have := NP.out; omega) TV.out
        rw [HLD.out, HLQ.out, enc_length] at h
        exact h)
      have R3 : Hid (∀ w', Kept NoBlk wr w' → Calls Try.prog 9 #[.slice aQ LQ cQ, .slice A6 SP c6, .slice aP LP cP] w' fun e w'' => e = .returned (.bool true) ∧ Kept NoBlk w' w'') := Lib.hid (fun w' k => by
        have kk := hk.none k
        have h := inverseIs_any w' aQ A6 aP cQ c6 cP xQ (enc SP qi) xP (PQ.out.still kk) (T6.out.still kk) (PP.out.still kk) (by have := SZ.out; have := HLQ.out; omega) (by rw [enc_length]; have := SZ.out; omega) (by have := SZ.out; have := HLP.out; omega) (by rw [enc_length]; exact G456.out.2.2) (by rw [HLP.out]; exact KC.out.2.2.1) (by rw [TI.out]; have := NP.out; omega) (by have := NP.out; omega) (by rw [TI.out, NP.out.1, NP.out.2.1]; exact IN.out)
        rw [HLQ.out, HLP.out, enc_length] at h
        exact h)
      have HK := Lib.hid (K4.out.none hk)
      clear hk TOLD HBL HBK T4 T5 T6 PD PP PQ G456 K4
      go_wp2_with fail
      go_region_held3 (fun w' => w'.cell? ⟨w1.heap.size, 2, none⟩ = some (.slice aD LD cD) ∧ w'.cell? ⟨w1.heap.size, 3, none⟩ = some (.slice aP LP cP) ∧ w'.cell? ⟨w1.heap.size, 4, none⟩ = some (.slice aQ LQ cQ) ∧ w'.cell? ⟨gl, 4, none⟩ = some (.slice A4 S1 c4) ∧ w'.cell? ⟨gl, 5, none⟩ = some (.slice A5 S2 c5) ∧ w'.cell? ⟨gl, 6, none⟩ = some (.slice A6 SP c6)) (exact ⟨by assumption, by assumption, by assumption, by assumption, by assumption, by assumption⟩) (first | (go_at_call 8; (with_reducible refine (R1.out wr.drew ((Kept.refl NoBlk wr).drew)).mono ?_); rintro x u1 ⟨rfl, k'⟩; have q1 : Kept NoBlk wr u1 := ((Kept.refl NoBlk wr).drew).trans k'; clear k'; have hb1 := HBR.out.kept q1 (fun e => e); have hl1 := HLR.out.kept q1 (fun e => e); have z1_0 : u1.cell? ⟨w1.heap.size, 2, none⟩ = some (.slice aD LD cD) := hb1.cellIs rfl; have z1_1 : u1.cell? ⟨w1.heap.size, 3, none⟩ = some (.slice aP LP cP) := hb1.cellIs rfl; have z1_2 : u1.cell? ⟨w1.heap.size, 4, none⟩ = some (.slice aQ LQ cQ) := hb1.cellIs rfl; have z1_3 : u1.cell? ⟨gl, 4, none⟩ = some (.slice A4 S1 c4) := hl1.cellIs rfl; have z1_4 : u1.cell? ⟨gl, 5, none⟩ = some (.slice A5 S2 c5) := hl1.cellIs rfl; have z1_5 : u1.cell? ⟨gl, 6, none⟩ = some (.slice A6 SP c6) := hl1.cellIs rfl) | (go_at_call 8; (with_reducible refine (R2.out u1 q1).mono ?_); rintro x u2 ⟨rfl, k'⟩; have q2 : Kept NoBlk wr u2 := q1.none k'; clear k'; have hb2 := HBR.out.kept q2 (fun e => e); have hl2 := HLR.out.kept q2 (fun e => e); have z2_0 : u2.cell? ⟨w1.heap.size, 2, none⟩ = some (.slice aD LD cD) := hb2.cellIs rfl; have z2_1 : u2.cell? ⟨w1.heap.size, 3, none⟩ = some (.slice aP LP cP) := hb2.cellIs rfl; have z2_2 : u2.cell? ⟨w1.heap.size, 4, none⟩ = some (.slice aQ LQ cQ) := hb2.cellIs rfl; have z2_3 : u2.cell? ⟨gl, 4, none⟩ = some (.slice A4 S1 c4) := hl2.cellIs rfl; have z2_4 : u2.cell? ⟨gl, 5, none⟩ = some (.slice A5 S2 c5) := hl2.cellIs rfl; have z2_5 : u2.cell? ⟨gl, 6, none⟩ = some (.slice A6 SP c6) := hl2.cellIs rfl) | (go_at_call 9; (with_reducible refine (R3.out u2 q2).mono ?_); rintro x u3 ⟨rfl, k'⟩; have q3 : Kept NoBlk wr u3 := q2.none k'; clear k'; have hb3 := HBR.out.kept q3 (fun e => e); have hl3 := HLR.out.kept q3 (fun e => e); have z3_0 : u3.cell? ⟨w1.heap.size, 2, none⟩ = some (.slice aD LD cD) := hb3.cellIs rfl; have z3_1 : u3.cell? ⟨w1.heap.size, 3, none⟩ = some (.slice aP LP cP) := hb3.cellIs rfl; have z3_2 : u3.cell? ⟨w1.heap.size, 4, none⟩ = some (.slice aQ LQ cQ) := hb3.cellIs rfl; have z3_3 : u3.cell? ⟨gl, 4, none⟩ = some (.slice A4 S1 c4) := hl3.cellIs rfl; have z3_4 : u3.cell? ⟨gl, 5, none⟩ = some (.slice A5 S2 c5) := hl3.cellIs rfl; have z3_5 : u3.cell? ⟨gl, 6, none⟩ = some (.slice A6 SP c6) := hl3.cellIs rfl))
      all_goals
        go_wp2_with fail
        go_ret
        exact ⟨rfl, HK.out.none q3⟩

end Go.Proofs.Ytdmpiecdpdknaaa
