/-
  The walk of FnSign15 (printed by gen_sign.py).
-/
import Derived.Test.YtdmpiecdpdknaaaGreatDoorGo
import Derived.Test.YtdmpiecdpdknaaaGreatDoorEncLaw
namespace Go.Proofs.YtdmpiecdpdknaaaGreatDoor
open Go.RowKit

/-- spec.Prefix of no name. -/
theorem specPrefix_none (w : World) : Calls Tryz.prog 7 #[.string ⟨#[]⟩] w fun e w' => e = .returned (.tuple #[.slice none 0 0, .int .i64 0, .bool false]) ∧ Kept NoBlk w w' := by
  go_enter Tryz.func7, Tryz.ntmps7
  go_wp2_with fail
  go_ret3
  exact ⟨rfl, (Kept.refl _ w).alloc _⟩

theorem hSize_1000 {i : Nat} : hSize i ≤ 1000 := by
  unfold hSize
  split <;> omega
theorem xor_u8 (x y : UInt8) : bits .xor .u8 (x.toNat : Int) (y.toNat : Int) = ((x ^^^ y).toNat : Int) := by
  have h1 : (BitVec.ofInt 8 (x.toNat : Int)) = x.toBitVec := by
    rw [BitVec.ofInt_natCast]; exact BitVec.ofNat_toNat _ _ |>.trans (by simp)
  have h2 : (BitVec.ofInt 8 (y.toNat : Int)) = y.toBitVec := by
    rw [BitVec.ofInt_natCast]; exact BitVec.ofNat_toNat _ _ |>.trans (by simp)
  show IntKind.u8.wrap ((BitVec.ofInt 8 (x.toNat : Int) ^^^ BitVec.ofInt 8 (y.toNat : Int)).toNat : Int) = _
  rw [h1, h2, IntKind.wrap_u8]
  have h3 : (x.toBitVec ^^^ y.toBitVec).toNat = (x ^^^ y).toNat := rfl
  rw [h3]
  have := (x ^^^ y).toNat_lt
  omega
theorem get_some {xs : List UInt8} {j : Nat} (h : j < xs.length) : ∃ x, xs[j]? = some x := ⟨_, List.getElem?_eq_getElem h⟩
theorem xor_ne (x y : UInt8) (h : x ^^^ y = x) : y = 0 := by
  have h2 : x ^^^ (x ^^^ y) = x ^^^ x := by rw [h]
  rw [← UInt8.xor_assoc, UInt8.xor_self, UInt8.zero_xor] at h2
  exact h2

/-- A row with one of its bytes turned. -/
theorem turned_at {w : World} {g L j : Nat} {cur : Array Value} {xs : List UInt8} {z : UInt8} (hb : Blk w g 5 cur) (ht : cur.toList.take L = xs.map B) (hl : xs.length = L) (hj : j < L) :
    BytesAt (w.setCell ⟨g, j, none⟩ (.int .u8 (z.toNat : Int))) (some ⟨g, 0, none⟩) (xs.set j z) := by
  have h := hb.set_ j (.int .u8 (z.toNat : Int))
  refine h.at_ _ (fun i u hu => ?_)
  have hc : ∀ (i : Nat) (u : Value), (xs.map B)[i]? = some u → cur[i]? = some u := by
    intro i u hu
    rw [← ht, List.getElem?_take] at hu
    split at hu
    · simpa using hu
    · cases hu
  rw [List.map_set] at hu
  rw [Array.getElem?_setIfInBounds]
  rw [List.getElem?_set] at hu
  by_cases hij : j = i
  · subst hij
    rw [if_pos rfl] at hu ⊢
    have hjl : j < (xs.map B).length := by rw [List.length_map]; omega
    rw [if_pos hjl] at hu
    have hcl : j < cur.size := by
      have := hc j _ (List.getElem?_eq_getElem hjl)
      rcases Nat.lt_or_ge j cur.size with h | h
      · exact h
      · rw [Array.getElem?_eq_none h] at this; cases this
    rw [if_pos hcl]
    exact hu
  · rw [if_neg hij] at hu ⊢
    exact hc i u hu
theorem untouched {w : World} {g L : Nat} {cur : Array Value} {xs : List UInt8} (hb : Blk w g 5 cur) (ht : cur.toList.take L = xs.map B) : BytesAt w (some ⟨g, 0, none⟩) xs := by
  refine hb.at_ _ (fun i u hu => ?_)
  rw [← ht, List.getElem?_take] at hu
  split at hu
  · simpa using hu
  · cases hu

theorem pfx8 : pfxOf 8 = [] := by unfold pfxOf; rw [if_neg (by decide)]
theorem pfx8_length : (pfxOf 8).length = 0 := by rw [pfx8]; rfl
theorem room_bare {L : Nat} (h : 11 ≤ L) : Room L 8 [] := by unfold Room; rw [pfx8_length]; simp; omega

set_option maxHeartbeats 1000000 in
set_option maxRecDepth 100000 in
theorem fnSign15_walk (a a1 : Int) (D : Option Addr) (cap : Nat) (dig : List UInt8) (a3 a4 : Int) (w : World) (ha0 : 0 ≤ a) (ha1 : a ≤ 255) (hb0 : 0 ≤ a1) (hb1 : a1 ≤ 255) (hd : BytesAt w D dig) (_hc : dig.length ≤ cap) (_hm : cap ≤ maxLen) (hc0 : 0 ≤ a3) (hc1 : a3 ≤ 65535) (hd0 : 0 ≤ a4) (hd1 : a4 ≤ 255) (ea : Addr) (hg : TooLong w ea) (ev : Addr) (hv : VerErr w ev) :
    Calls Tryz.prog 3 #[.int .u8 a, .int .u8 a1, .slice D dig.length cap, .int .u16 a3, .int .u8 a4] w fun e w' => e = .returned (.bool true) ∧ Kept NoBlk w w' := by
  unfold maxLen at _hm
  by_cases h1 : 2147483647 < dig.length
  · go_enter Tryz.func3, Tryz.ntmps3
    go_wp2_with fail
    go_ret
    exact ⟨rfl, Kept.refl _ _⟩
  have hbey := beyond_any w.heap.size [dig.length] (w.alloc (.cells #[.int .i64 dig.length] 3))
    (at_new w 3 ([dig.length].map fun (n : Nat) => Value.int .i64 (n : Int))) (by simp)
  by_cases h2 : 1048576 < dig.length
  · rw [show ([dig.length].any fun n => decide (1048576 < n)) = true by simpa using h2] at hbey
    have HB := Lib.hid hbey
    clear hbey
    go_enter Tryz.func3, Tryz.ntmps3
    go_wp2_with fail
    refine HB.out.mono ?_
    rintro e w' ⟨rfl, rfl⟩
    go_wp2_with fail
    go_ret
    exact ⟨rfl, (Kept.refl _ _).alloc _⟩
  rw [show ([dig.length].any fun n => decide (1048576 < n)) = false by simp; omega] at hbey
  have HB := Lib.hid hbey
  clear hbey
  obtain ⟨k, rfl⟩ := Int.eq_ofNat_of_zero_le ha0
  have hk : k < 256 := by omega
  obtain ⟨nn, rfl⟩ := Int.eq_ofNat_of_zero_le hb0
  obtain ⟨tt, rfl⟩ := Int.eq_ofNat_of_zero_le hc0
  obtain ⟨by_, rfl⟩ := byte_of hd0 hd1
  have HD := Lib.hid hd
  have HG := Lib.hid hg
  have HVE := Lib.hid hv
  have HK := Lib.hid (fun w => keyOf_any k hk w)
  have duo := duo k hk
  generalize e1 k = ea' at *
  generalize e2 k = eb at *
  obtain ⟨m, hm⟩ : ∃ m, Mp ea' * Mp eb = m := ⟨_, rfl⟩
  obtain ⟨L, hL⟩ : ∃ L, (bitLen m + 7) / 8 = L := ⟨_, rfl⟩
  have hlen : (encT m).length = L := by rw [encT_length_bits]; exact hL
  have hLL : 16 ≤ L ∧ L ≤ 81 := by
    have h1 := duo.bits
    have h2 := duo.a61
    have h3 := duo.b61
    have h4 := duo.sum
    rw [hm] at h1
    omega
  obtain ⟨sgn, hsl, hsig, hpub, hver⟩ := duo.sigs hm hL
  have SL := Lib.hid hsl
  have SG := Lib.hid hsig
  have PU := Lib.hid hpub
  have VE := Lib.hid hver
  have HLL := Lib.hid hlen
  have HMM := Lib.hid hm
  clear hd hg hv hL duo hm hlen hsl hsig hpub hver
  -- the digest and its name: either of the two
  go_enter Tryz.func3, Tryz.ntmps3
  go_wp2_with fail
  refine HB.out.mono ?_
  rintro e w' ⟨rfl, rfl⟩
  clear HB
  go_wp2_with fail
  refine (HK.out _).mono ?_
  rintro e w1 ⟨v, rfl, hkey, k1⟩
  have hkey' := hkey
  obtain ⟨aN, aD, aP, aQ, cN, cD, cP, cQ, rfl, hN, hD', hP, hQ, kN, kD, kP, kQ⟩ := hkey
  rw [HMM.out] at hN kN hkey' ⊢
  rw [HLL.out] at kN hkey' ⊢
  generalize (encT (secOf ea' eb)).length = LD at *
  generalize (mers ea').length = LP at *
  generalize (mers eb).length = LQ at *
  have K1 := Lib.hid (((Kept.refl NoBlk w).alloc (.cells #[.int .i64 dig.length] 3)).none k1)
  have HKEY1 : Hid (KeyAt ea' eb w1 (.agg #[.slice aN L cN, .int .i64 65537, .slice aD LD cD, .slice aP LP cP, .slice aQ LQ cQ])) := Lib.hid hkey'
  have HN1 := Lib.hid hN
  clear k1 HK hD' hP hQ kP kQ kD hkey' hN
  obtain ⟨w2, hw2⟩ : ∃ w2, w1.alloc (.cells #[.slice aN L cN, .int .i64 65537, .slice aD LD cD, .slice aP LP cP, .slice aQ LQ cQ] 26) = w2 := ⟨_, rfl⟩
  have hb := Blk.new w1 26 #[.slice aN L cN, .int .i64 65537, .slice aD LD cD, .slice aP LP cP, .slice aQ LQ cQ]
  rw [hw2] at hb
  have k12 : Kept NoBlk w1 w2 := by rw [← hw2]; exact (Kept.refl _ w1).alloc _
  have HB := Lib.hid hb
  have K2 := Lib.hid (K1.out.none k12)
  have HN := Lib.hid (HN1.out.still k12)
  have HKEY := Lib.hid (HKEY1.out.still k12)
  clear hb k12 HN1 HKEY1 K1
  rcases Nat.mod_two_eq_zero_or_one nn with hpar | hpar
  · have wpar : (nn : Int).tmod 2 = 0 := by rw [Int.tmod_eq_emod_of_nonneg (by omega)]; omega
    have wpar2 : ((nn : Int) % 2 == 0) = true := by rw [beq_iff_eq]; omega
    have wq : (nn : Int).tdiv 2 = ((nn / 2 : Nat) : Int) := by rw [Int.tdiv_eq_ediv_of_nonneg (by omega)]; omega
    obtain ⟨i, hin⟩ : ∃ i, nn / 2 % 8 = i := ⟨_, rfl⟩
    have hi : i < 8 := by omega
    have wi : ((nn / 2 : Nat) : Int).tmod 8 = (i : Int) := by rw [Int.tmod_eq_emod_of_nonneg (by omega)]; omega
    have wi2 : (nn : Int) / 2 % 8 = (i : Int) := by omega
    have wnn : wrap64 (nn : Int) = (nn : Int) := w64' _ (by omega)
    have C := Lib.hid (names_any w2)
    clear hin
    go_wp2_with fail
    refine C.out.mono ?_
    rintro e w3 ⟨g3, rfl, hc3, k⟩
    have hcell : w3.cell? ⟨g3, i, none⟩ = some (.string (hName i)) := hc3 i hi
    have A_2 := Lib.hid k
    clear k hc3 C
    have C := Lib.hid (specPrefix_name i hi w3)
    obtain ⟨pre, hpre⟩ : ∃ pre, hPfx i = pre := ⟨_, rfl⟩
    obtain ⟨zz, hz⟩ : ∃ zz, hSize i = zz := ⟨_, rfl⟩
    have hpl : pre.length ≤ 1000 := by
      rw [← hpre]
      have h : i = 0 ∨ i = 1 ∨ i = 2 ∨ i = 3 ∨ i = 4 ∨ i = 5 ∨ i = 6 ∨ i = 7 := by omega
      rcases h with rfl | rfl | rfl | rfl | rfl | rfl | rfl | rfl <;> simp [hPfx]
    have hzl : zz ≤ 1000 := by rw [← hz]; exact hSize_1000
    have hz1 : 1 ≤ zz := by
      rw [← hz]
      have h : i = 0 ∨ i = 1 ∨ i = 2 ∨ i = 3 ∨ i = 4 ∨ i = 5 ∨ i = 6 ∨ i = 7 := by omega
      rcases h with rfl | rfl | rfl | rfl | rfl | rfl | rfl | rfl <;> simp [hSize]
    have HPX : Hid (pfxOf i = pre) := Lib.hid (by unfold pfxOf; rw [if_pos hi, hpre])
    have HPRE := Lib.hid hpre
    have HZZ := Lib.hid hz
    rw [hpre, hz] at C
    obtain ⟨S, hS⟩ : ∃ S, hName i = S := ⟨_, rfl⟩
    have HNAME : Hid (NameOf i S) := Lib.hid (.inl ⟨hi, hS.symm⟩)
    have HSS := Lib.hid hS
    rw [hS] at C hcell
    clear hpre hz hS
    go_wp2_with fail
    refine C.out.mono ?_
    rintro e w4 ⟨A4, c4, rfl, _, _, _, k⟩
    replace A_2 := Lib.hid (A_2.out.none k)
    clear k C hcell
    have hmk := make_bytes w4 zz (by omega)
    -- the digest: a row of noughts, with the bytes copied in
    obtain ⟨w4b, hw4b⟩ : ∃ w4b, w4.alloc (.cells (zeroRow zz) 5) = w4b := ⟨_, rfl⟩
    have hb4 : Blk w4b w4.heap.size 5 ((List.replicate zz (0 : UInt8)).map B).toArray := by
      rw [← hw4b]
      exact Blk.new w4 _ _
    have k44 : Kept NoBlk w4 w4b := by rw [← hw4b]; exact (Kept.refl _ w4).alloc _
    have hD4 := HD.out.still ((K2.out.none A_2.out).none k44)
    obtain ⟨kk, hkk⟩ : ∃ kk, kk = min dig.length zz := ⟨_, rfl⟩
    obtain ⟨w5, r5, b5, k5⟩ := run_copy_bytes w4b 3 (some ⟨w4.heap.size, 0, none⟩) D zz zz dig.length cap w4.heap.size 0 ((List.replicate zz (0 : UInt8)).map B) 5 hb4 dig hD4 rfl kk hkk (fun _ => rfl) (by rw [List.length_map, List.length_replicate]; omega)
    obtain ⟨db, hdb, hdbl⟩ : ∃ db : List UInt8, splice ((List.replicate zz (0 : UInt8)).map B) 0 ((dig.take kk).map B) = db.map B ∧ db.length = zz := by
      refine ⟨splice (List.replicate zz (0 : UInt8)) 0 (dig.take kk), ?_, ?_⟩
      · simp [splice]
      · simp [splice]; omega
    rw [hdb] at b5
    have k45 : Kept NoBlk w4 w5 := k44.fresh k5 (Nat.le_refl _)
    replace A_2 := Lib.hid (A_2.out.none k45)
    have HDG := Lib.hid b5.bytes
    have HDL := Lib.hid hdbl
    have HSZ : Hid (i < 8 → db.length = hSize i) := Lib.hid (fun _ => by rw [HZZ.out]; exact hdbl)
    have hw4e : w4.alloc (.cells (zeroRow zz) 5) = w4b := hw4b
    clear hw4b hb4 k44 hD4 hkk hdb b5 k5 k45 hdbl
    go_wp2_with fail
    clear r5 hmk hw4e wpar wpar2 wq wi wi2 wnn hz1
    have C := Lib.hid (specPrefix_name i hi w5)
    rw [HPRE.out, HSS.out, HZZ.out] at C
    go_wp2_with fail
    refine C.out.mono ?_
    rintro e w6 ⟨A6, c6, rfl, hat6, hpc6, hpm6, k⟩
    have F_6 := Lib.hid hat6
    replace A_2 := Lib.hid (A_2.out.none k)
    replace HDG := Lib.hid (HDG.out.still k)
    clear C hat6 hpm6 hpc6 k
    have hlong := long_any w6.heap.size ([(((some ⟨w4.heap.size, 0, none⟩) : Option Addr), zz, zz)] : List Piece) (w6.alloc (.cells #[.slice (some ⟨w4.heap.size, 0, none⟩) zz zz] 22))
      (at_new w6 22 (([(((some ⟨w4.heap.size, 0, none⟩) : Option Addr), zz, zz)] : List Piece).map Piece.val)) (by simp) (by intro p hp; simp at hp; subst hp; simp; omega)
    rw [show lensOf ([(((some ⟨w4.heap.size, 0, none⟩) : Option Addr), zz, zz)] : List Piece) = zz by simp [lensOf]] at hlong
    obtain ⟨w7, hw7⟩ : ∃ w7, w6.alloc (.cells #[.slice (some ⟨w4.heap.size, 0, none⟩) zz zz] 22) = w7 := ⟨_, rfl⟩
    rw [hw7] at hlong
    have k : Kept NoBlk w6 w7 := by rw [← hw7]; exact (Kept.refl _ _).alloc _
    replace A_2 := Lib.hid (A_2.out.none k)
    replace HDG := Lib.hid (HDG.out.still k)
    replace F_6 := Lib.hid (F_6.out.still k)
    clear k

    have h3 : ¬ 65536 < zz := by omega
    rw [decide_eq_false (by simpa using h3)] at hlong
    have HL := Lib.hid hlong
    clear hlong
    have DLE : Hid (db.length ≤ 1000000) := Lib.hid (by have := HDL.out; omega)
    have y0 : w7.cell? ⟨w1.heap.size, 0, none⟩ = some (.slice aN L cN) := (HB.out.kept A_2.out (fun e => e)).cellIs rfl
    have y1 : w7.cell? ⟨w1.heap.size, 1, none⟩ = some (.int .i64 65537) := (HB.out.kept A_2.out (fun e => e)).cellIs rfl
    have y2 : w7.cell? ⟨w1.heap.size, 2, none⟩ = some (.slice aD LD cD) := (HB.out.kept A_2.out (fun e => e)).cellIs rfl
    have y3 : w7.cell? ⟨w1.heap.size, 3, none⟩ = some (.slice aP LP cP) := (HB.out.kept A_2.out (fun e => e)).cellIs rfl
    have y4 : w7.cell? ⟨w1.heap.size, 4, none⟩ = some (.slice aQ LQ cQ) := (HB.out.kept A_2.out (fun e => e)).cellIs rfl
    have hse := specEnc_any L A6 (some ⟨w4.heap.size, 0, none⟩) c6 zz pre db w7 F_6.out HDG.out (by omega) (by omega) DLE.out
    rw [HDL.out] at hse
    have C := Lib.hid hse
    clear hse
    go_wp2_with fail
    refine HL.out.mono ?_
    rintro e w' ⟨rfl, rfl⟩
    clear HL
    go_wp2_with fail
    refine C.out.mono ?_
    clear y0 y1 y2 y3 y4
    intro e w8 h
    have hkk : Kept NoBlk w7 w8 := by rcases h with ⟨_, _, k⟩ | ⟨_, _, _, _, _, k⟩ <;> exact k
    have B_2 := Lib.hid (A_2.out.none hkk)
    have HDG8 := Lib.hid (HDG.out.still hkk)
    have hsg := SG.out w8 _ (HKEY.out.still B_2.out) i S HNAME.out ea (some ⟨w4.heap.size, 0, none⟩) zz db (HG.out.still (K2.out.none B_2.out)) HDG8.out DLE.out HSZ.out
    rw [HDL.out] at hsg
    clear A_2 HDG F_6 C hkk
    have A_2 := B_2
    clear B_2
    have y0 : w8.cell? ⟨w1.heap.size, 0, none⟩ = some (.slice aN L cN) := (HB.out.kept A_2.out (fun e => e)).cellIs rfl
    have y1 : w8.cell? ⟨w1.heap.size, 1, none⟩ = some (.int .i64 65537) := (HB.out.kept A_2.out (fun e => e)).cellIs rfl
    have y2 : w8.cell? ⟨w1.heap.size, 2, none⟩ = some (.slice aD LD cD) := (HB.out.kept A_2.out (fun e => e)).cellIs rfl
    have y3 : w8.cell? ⟨w1.heap.size, 3, none⟩ = some (.slice aP LP cP) := (HB.out.kept A_2.out (fun e => e)).cellIs rfl
    have y4 : w8.cell? ⟨w1.heap.size, 4, none⟩ = some (.slice aQ LQ cQ) := (HB.out.kept A_2.out (fun e => e)).cellIs rfl
    rcases h with ⟨hr, rfl, _⟩ | ⟨hr, A8, c8, rfl, hat8, _⟩
    · have NR : Hid (¬ Room L i db) := Lib.hid (by unfold Room; rw [HPX.out, HDL.out]; rw [HDL.out] at hr; omega)
      have C := Lib.hid hsg
      clear hr hsg
      go_wp2_with fail
      refine C.out.mono ?_
      intro e w9 h
      rcases h with ⟨_, rfl, k9⟩ | ⟨hbad, _⟩
      · replace A_2 := Lib.hid (A_2.out.none k9)
        clear k9 C y0 y1 y2 y3 y4
        have hbare := SG.out w9 _ (HKEY.out.still A_2.out) 8 ⟨#[]⟩ (.inr ⟨rfl, rfl⟩) ea none 0 [] (HG.out.still (K2.out.none A_2.out)) (BytesAt.nil _ _) (by simp) (fun h => by omega)
        have C := Lib.hid hbare
        clear hbare
        have y0 : w9.cell? ⟨w1.heap.size, 0, none⟩ = some (.slice aN L cN) := (HB.out.kept A_2.out (fun e => e)).cellIs rfl
        have y1 : w9.cell? ⟨w1.heap.size, 1, none⟩ = some (.int .i64 65537) := (HB.out.kept A_2.out (fun e => e)).cellIs rfl
        have y2 : w9.cell? ⟨w1.heap.size, 2, none⟩ = some (.slice aD LD cD) := (HB.out.kept A_2.out (fun e => e)).cellIs rfl
        have y3 : w9.cell? ⟨w1.heap.size, 3, none⟩ = some (.slice aP LP cP) := (HB.out.kept A_2.out (fun e => e)).cellIs rfl
        have y4 : w9.cell? ⟨w1.heap.size, 4, none⟩ = some (.slice aQ LQ cQ) := (HB.out.kept A_2.out (fun e => e)).cellIs rfl
        go_wp2_with fail
        refine C.out.mono ?_
        intro e w10 h
        rcases h with ⟨hbad, _⟩ | ⟨_, g10, c10, cur10, rfl, _, _, _, _, k10⟩
        · exact absurd (room_bare (by omega)) hbad
        · replace A_2 := Lib.hid (A_2.out.none k10)
          clear k10 C y0 y1 y2 y3 y4
          go_wp2_with fail
          go_ret
          exact ⟨rfl, K2.out.none A_2.out⟩
      · exact absurd hbad NR.out
    · have RM : Hid (Room L i db) := Lib.hid (by unfold Room; rw [HPX.out, HDL.out]; rw [HDL.out] at hr; omega)
      have hem : emOf (L - pre.length - db.length - 3) pre db = emL L (pfxOf i) db := by unfold emL; rw [HPX.out]
      rw [hem] at hat8 ⊢
      rw [emL_length RM.out] at ⊢
      have F_8 := Lib.hid hat8
      have C := Lib.hid hsg
      clear hr hsg hem hat8
      go_wp2_with fail
      refine C.out.mono ?_
      intro e w9 h
      rcases h with ⟨hbad, _⟩ | ⟨_, g9, c9, cur, rfl, hg9, hb9, hc9, ht9, k9⟩
      · exact absurd RM.out hbad
      replace F_8 := Lib.hid (F_8.out.still k9)
      have HDG9 := Lib.hid (HDG8.out.still k9)
      have A_8 := A_2
      replace A_2 := Lib.hid (A_2.out.none k9)
      have BK := Lib.hid hb9
      have TK := Lib.hid ht9
      have G9 := Lib.hid hg9
      have K89 := Lib.hid k9
      obtain ⟨sg, hsgv⟩ : ∃ sg, sgn i db = sg := ⟨_, rfl⟩
      have hsgl : sg.length = L := by rw [← hsgv]; exact SL.out _ _
      have hun : BytesAt w9 (some ⟨g9, 0, none⟩) (sgn i db) := untouched hb9 ht9
      have C1 := Lib.hid (PU.out w9 aN (some ⟨g9, 0, none⟩) cN c9 i db (HN.out.still A_2.out) RM.out hun)
      have HUN := Lib.hid hun
      clear y0 y1 y2 y3 y4 C k9 hg9 hb9 ht9 hun
      have y0 : w9.cell? ⟨w1.heap.size, 0, none⟩ = some (.slice aN L cN) := (HB.out.kept A_2.out (fun e => e)).cellIs rfl
      have y1 : w9.cell? ⟨w1.heap.size, 1, none⟩ = some (.int .i64 65537) := (HB.out.kept A_2.out (fun e => e)).cellIs rfl
      have y2 : w9.cell? ⟨w1.heap.size, 2, none⟩ = some (.slice aD LD cD) := (HB.out.kept A_2.out (fun e => e)).cellIs rfl
      have y3 : w9.cell? ⟨w1.heap.size, 3, none⟩ = some (.slice aP LP cP) := (HB.out.kept A_2.out (fun e => e)).cellIs rfl
      have y4 : w9.cell? ⟨w1.heap.size, 4, none⟩ = some (.slice aQ LQ cQ) := (HB.out.kept A_2.out (fun e => e)).cellIs rfl
      go_wp2_with fail
      refine C1.out.mono ?_
      rintro e w10 ⟨A10, c10, rfl, hat10, k10⟩
      have hsm := same_any w10 A10 A8 c10 c8 (emL L (pfxOf i) db) (emL L (pfxOf i) db) hat10 (F_8.out.still k10)
      rw [beq_self_eq_true, emL_length RM.out] at hsm
      have C2 := Lib.hid hsm
      have B_2 := Lib.hid (A_2.out.none k10)
      have hver := VE.out w10 i S HNAME.out ea ev aN (some ⟨w4.heap.size, 0, none⟩) (some ⟨g9, 0, none⟩) cN zz c9 db (sgn i db) (HN.out.still B_2.out) (HG.out.still (K2.out.none B_2.out)) (HVE.out.still (K2.out.none B_2.out)) (HDG9.out.still k10) DLE.out HSZ.out (HUN.out.still k10) (SL.out _ _) RM.out
      rw [beq_self_eq_true, HDL.out] at hver
      have C3 := Lib.hid hver
      have K910 := Lib.hid k10
      clear hat10 k10 hsm hver C1 y0 y1 y2 y3 y4 A_2 F_8
      have A_2 := B_2
      clear B_2
      have y0 : w10.cell? ⟨w1.heap.size, 0, none⟩ = some (.slice aN L cN) := (HB.out.kept A_2.out (fun e => e)).cellIs rfl
      have y1 : w10.cell? ⟨w1.heap.size, 1, none⟩ = some (.int .i64 65537) := (HB.out.kept A_2.out (fun e => e)).cellIs rfl
      have y2 : w10.cell? ⟨w1.heap.size, 2, none⟩ = some (.slice aD LD cD) := (HB.out.kept A_2.out (fun e => e)).cellIs rfl
      have y3 : w10.cell? ⟨w1.heap.size, 3, none⟩ = some (.slice aP LP cP) := (HB.out.kept A_2.out (fun e => e)).cellIs rfl
      have y4 : w10.cell? ⟨w1.heap.size, 4, none⟩ = some (.slice aQ LQ cQ) := (HB.out.kept A_2.out (fun e => e)).cellIs rfl
      go_wp2_with fail
      refine C2.out.mono ?_
      rintro e w' ⟨rfl, rfl⟩
      clear C2
      go_wp2_with fail
      refine C3.out.mono ?_
      rintro e w11 ⟨rfl, k11⟩
      have K11 := Lib.hid (K910.out.none k11)
      replace A_2 := Lib.hid (A_2.out.none k11)
      clear C3 k11 y0 y1 y2 y3 y4 K910
      -- the signature's byte
      obtain ⟨j, hj⟩ : ∃ j, tt % L = j := ⟨_, rfl⟩
      have hjL : j < L := by rw [← hj]; exact Nat.mod_lt _ (by omega)
      have wt : (tt : Int).tmod (L : Int) = (j : Int) := by rw [Int.tmod_eq_emod_of_nonneg (by omega), ← hj]; simp
      have wtt : wrap64 (tt : Int) = (tt : Int) := w64' _ (by omega)
      have wj : wrap64 (j : Int) = (j : Int) := w64' _ (by omega)
      have wne : ((L : Int) == 0) = false := by rw [beq_eq_false_iff_ne]; omega
      have hjs : j < sg.length := by rw [hsgl]; exact hjL
      obtain ⟨x, hx⟩ : ∃ x, sg[j]? = some x := get_some hjs
      have hB11 := BK.out.kept K11.out (fun e => e)
      have cx : w11.cell? ⟨g9, j, none⟩ = some (.int .u8 (x.toNat : Int)) := by
        have h := untouched hB11 (xs := sg) (by rw [← hsgv]; exact TK.out)
        obtain ⟨b, off, e, _, hc⟩ := h.at_ (k := j) hjs
        cases e
        have := hc j x hx
        rw [Nat.zero_add] at this
        exact this
      have fx : w11.frozen? ⟨g9, j, none⟩ = false := hB11.frozen j
      have hxor := xor_u8 x by_
      obtain ⟨z, hz⟩ : ∃ z, x ^^^ by_ = z := ⟨_, rfl⟩
      rw [hz] at hxor
      have hnew : BytesAt (w11.setCell ⟨g9, j, none⟩ (.int .u8 (z.toNat : Int))) (some ⟨g9, 0, none⟩) (sg.set j z) := turned_at hB11 (by rw [← hsgv]; exact TK.out) hsgl hjL
      have k811 := Kept.none K89.out K11.out
      have k8s := Kept.setNew k811 G9.out j (Value.int .u8 (z.toNat : Int))
      have hjl : (j : Int) < (L : Int) := Int.ofNat_lt.2 hjL
      have B_2 := Lib.hid (A_8.out.none k8s)
      have hver := VE.out (w11.setCell ⟨g9, j, none⟩ (.int .u8 (z.toNat : Int))) i S HNAME.out ea ev aN (some ⟨w4.heap.size, 0, none⟩) (some ⟨g9, 0, none⟩) cN zz c9 db (sg.set j z) (HN.out.still B_2.out) (HG.out.still (K2.out.none B_2.out)) (HVE.out.still (K2.out.none B_2.out)) (HDG8.out.still k8s) DLE.out HSZ.out hnew (by rw [List.length_set]; exact hsgl) RM.out
      rw [HDL.out, hsgv] at hver
      have hres : (sg.set j z == sg) = ((by_.toNat : Int) == 0) := by
        have hxj : sg[j] = x := by rw [List.getElem?_eq_getElem hjs] at hx; exact Option.some.inj hx
        by_cases h0 : by_ = 0
        · rw [h0, UInt8.xor_zero] at hz
          rw [← hz, ← hxj, List.set_getElem_self, beq_self_eq_true]
          rw [h0]
          rfl
        · rw [show (sg.set j z == sg) = false from ?_]
          · symm
            rw [beq_eq_false_iff_ne]
            intro h
            exact h0 (byte_zero.1 h)
          · rw [beq_eq_false_iff_ne]
            intro h
            apply h0
            have h5 := congrArg (fun l => l[j]?) h
            simp only [List.getElem?_set_self hjs, hx, Option.some.injEq] at h5
            exact xor_ne x by_ (hz.trans h5)
      rw [hres] at hver
      have C4 := Lib.hid hver
      clear hver hres hnew k8s hB11 hx hz hj hsgv hsgl hjs K11 BK TK K89 G9 HUN A_8 RM
      have y0 : (w11.setCell ⟨g9, j, none⟩ (.int .u8 (z.toNat : Int))).cell? ⟨w1.heap.size, 0, none⟩ = some (.slice aN L cN) := (HB.out.kept B_2.out (fun e => e)).cellIs rfl
      have y1 : (w11.setCell ⟨g9, j, none⟩ (.int .u8 (z.toNat : Int))).cell? ⟨w1.heap.size, 1, none⟩ = some (.int .i64 65537) := (HB.out.kept B_2.out (fun e => e)).cellIs rfl
      have y2 : (w11.setCell ⟨g9, j, none⟩ (.int .u8 (z.toNat : Int))).cell? ⟨w1.heap.size, 2, none⟩ = some (.slice aD LD cD) := (HB.out.kept B_2.out (fun e => e)).cellIs rfl
      have y3 : (w11.setCell ⟨g9, j, none⟩ (.int .u8 (z.toNat : Int))).cell? ⟨w1.heap.size, 3, none⟩ = some (.slice aP LP cP) := (HB.out.kept B_2.out (fun e => e)).cellIs rfl
      have y4 : (w11.setCell ⟨g9, j, none⟩ (.int .u8 (z.toNat : Int))).cell? ⟨w1.heap.size, 4, none⟩ = some (.slice aQ LQ cQ) := (HB.out.kept B_2.out (fun e => e)).cellIs rfl
      go_wp2_with fail
      refine C4.out.mono ?_
      rintro e w12 ⟨rfl, k12⟩
      have KF := Lib.hid ((K2.out.none B_2.out).none k12)
      clear k12 C4 y0 y1 y2 y3 y4
      obtain ⟨bb, hbb⟩ : ∃ bb, ((by_.toNat : Int) == 0) = bb := ⟨_, rfl⟩
      rw [hbb]
      go_wp2_with fail
      go_ret
      exact ⟨by first | rfl | simp, KF.out⟩
  · have wpar : (nn : Int).tmod 2 = 1 := by rw [Int.tmod_eq_emod_of_nonneg (by omega)]; omega
    have wpar2 : ((nn : Int) % 2 == 0) = false := by rw [beq_eq_false_iff_ne]; omega
    have A_2 : Hid (Kept NoBlk w2 w2) := Lib.hid (Kept.refl _ _)
    have HDG := Lib.hid (HD.out.still K2.out)
    have HDL : Hid (dig.length = dig.length) := Lib.hid rfl
    have HNAME : Hid (NameOf 8 ⟨#[]⟩) := Lib.hid (.inr ⟨rfl, rfl⟩)
    have HSZ : Hid (8 < 8 → dig.length = hSize 8) := Lib.hid (fun h => absurd h (by decide))

    have C := Lib.hid (specPrefix_none w2)
    go_wp2_with fail
    refine C.out.mono ?_
    rintro e w6 ⟨rfl, k⟩
    have F_6 : Hid (BytesAt w6 none (pfxOf 8)) := Lib.hid (BytesAt.nil _ _)
    replace A_2 := Lib.hid (A_2.out.none k)
    replace HDG := Lib.hid (HDG.out.still k)
    clear C k
    have hlong := long_any w6.heap.size ([((D : Option Addr), dig.length, cap)] : List Piece) (w6.alloc (.cells #[.slice D dig.length cap] 22))
      (at_new w6 22 (([((D : Option Addr), dig.length, cap)] : List Piece).map Piece.val)) (by simp) (by intro p hp; simp at hp; subst hp; simp; omega)
    rw [show lensOf ([((D : Option Addr), dig.length, cap)] : List Piece) = dig.length by simp [lensOf]] at hlong
    obtain ⟨w7, hw7⟩ : ∃ w7, w6.alloc (.cells #[.slice D dig.length cap] 22) = w7 := ⟨_, rfl⟩
    rw [hw7] at hlong
    have k : Kept NoBlk w6 w7 := by rw [← hw7]; exact (Kept.refl _ _).alloc _
    replace A_2 := Lib.hid (A_2.out.none k)
    replace HDG := Lib.hid (HDG.out.still k)
    replace F_6 := Lib.hid (F_6.out.still k)
    clear k

    by_cases h3 : 65536 < dig.length
    · rw [decide_eq_true (by simpa using h3)] at hlong
      have HL := Lib.hid hlong
      clear hlong
      go_wp2_with fail
      refine HL.out.mono ?_
      rintro e w' ⟨rfl, rfl⟩
      go_wp2_with fail
      go_ret
      exact ⟨rfl, K2.out.none A_2.out⟩
    rw [decide_eq_false (by simpa using h3)] at hlong
    have HL := Lib.hid hlong
    clear hlong
    have DLE : Hid (dig.length ≤ 1000000) := Lib.hid (by have := HDL.out; omega)
    have y0 : w7.cell? ⟨w1.heap.size, 0, none⟩ = some (.slice aN L cN) := (HB.out.kept A_2.out (fun e => e)).cellIs rfl
    have y1 : w7.cell? ⟨w1.heap.size, 1, none⟩ = some (.int .i64 65537) := (HB.out.kept A_2.out (fun e => e)).cellIs rfl
    have y2 : w7.cell? ⟨w1.heap.size, 2, none⟩ = some (.slice aD LD cD) := (HB.out.kept A_2.out (fun e => e)).cellIs rfl
    have y3 : w7.cell? ⟨w1.heap.size, 3, none⟩ = some (.slice aP LP cP) := (HB.out.kept A_2.out (fun e => e)).cellIs rfl
    have y4 : w7.cell? ⟨w1.heap.size, 4, none⟩ = some (.slice aQ LQ cQ) := (HB.out.kept A_2.out (fun e => e)).cellIs rfl
    have hse := specEnc_any L none D 0 cap (pfxOf 8) dig w7 F_6.out HDG.out (by omega) (by rw [pfx8_length]; omega) DLE.out
    rw [pfx8_length] at hse
    have C := Lib.hid hse
    clear hse
    go_wp2_with fail
    refine HL.out.mono ?_
    rintro e w' ⟨rfl, rfl⟩
    clear HL
    go_wp2_with fail
    refine C.out.mono ?_
    clear y0 y1 y2 y3 y4
    intro e w8 h
    have hkk : Kept NoBlk w7 w8 := by rcases h with ⟨_, _, k⟩ | ⟨_, _, _, _, _, k⟩ <;> exact k
    have B_2 := Lib.hid (A_2.out.none hkk)
    have HDG8 := Lib.hid (HDG.out.still hkk)
    have hsg := SG.out w8 _ (HKEY.out.still B_2.out) 8 ⟨#[]⟩ HNAME.out ea D cap dig (HG.out.still (K2.out.none B_2.out)) HDG8.out DLE.out HSZ.out
    skip
    clear A_2 HDG F_6 C hkk
    have A_2 := B_2
    clear B_2
    have y0 : w8.cell? ⟨w1.heap.size, 0, none⟩ = some (.slice aN L cN) := (HB.out.kept A_2.out (fun e => e)).cellIs rfl
    have y1 : w8.cell? ⟨w1.heap.size, 1, none⟩ = some (.int .i64 65537) := (HB.out.kept A_2.out (fun e => e)).cellIs rfl
    have y2 : w8.cell? ⟨w1.heap.size, 2, none⟩ = some (.slice aD LD cD) := (HB.out.kept A_2.out (fun e => e)).cellIs rfl
    have y3 : w8.cell? ⟨w1.heap.size, 3, none⟩ = some (.slice aP LP cP) := (HB.out.kept A_2.out (fun e => e)).cellIs rfl
    have y4 : w8.cell? ⟨w1.heap.size, 4, none⟩ = some (.slice aQ LQ cQ) := (HB.out.kept A_2.out (fun e => e)).cellIs rfl
    rcases h with ⟨hr, rfl, _⟩ | ⟨hr, A8, c8, rfl, hat8, _⟩
    · have NR : Hid (¬ Room L 8 dig) := Lib.hid (by unfold Room; rw [pfx8_length]; rw [pfx8_length] at hr; omega)
      have C := Lib.hid hsg
      clear hr hsg
      go_wp2_with fail
      refine C.out.mono ?_
      intro e w9 h
      rcases h with ⟨_, rfl, k9⟩ | ⟨hbad, _⟩
      · replace A_2 := Lib.hid (A_2.out.none k9)
        clear k9 C y0 y1 y2 y3 y4
        have hbare := SG.out w9 _ (HKEY.out.still A_2.out) 8 ⟨#[]⟩ (.inr ⟨rfl, rfl⟩) ea none 0 [] (HG.out.still (K2.out.none A_2.out)) (BytesAt.nil _ _) (by simp) (fun h => by omega)
        have C := Lib.hid hbare
        clear hbare
        have y0 : w9.cell? ⟨w1.heap.size, 0, none⟩ = some (.slice aN L cN) := (HB.out.kept A_2.out (fun e => e)).cellIs rfl
        have y1 : w9.cell? ⟨w1.heap.size, 1, none⟩ = some (.int .i64 65537) := (HB.out.kept A_2.out (fun e => e)).cellIs rfl
        have y2 : w9.cell? ⟨w1.heap.size, 2, none⟩ = some (.slice aD LD cD) := (HB.out.kept A_2.out (fun e => e)).cellIs rfl
        have y3 : w9.cell? ⟨w1.heap.size, 3, none⟩ = some (.slice aP LP cP) := (HB.out.kept A_2.out (fun e => e)).cellIs rfl
        have y4 : w9.cell? ⟨w1.heap.size, 4, none⟩ = some (.slice aQ LQ cQ) := (HB.out.kept A_2.out (fun e => e)).cellIs rfl
        go_wp2_with fail
        refine C.out.mono ?_
        intro e w10 h
        rcases h with ⟨hbad, _⟩ | ⟨_, g10, c10, cur10, rfl, _, _, _, _, k10⟩
        · exact absurd (room_bare (by omega)) hbad
        · replace A_2 := Lib.hid (A_2.out.none k10)
          clear k10 C y0 y1 y2 y3 y4
          go_wp2_with fail
          go_ret
          exact ⟨rfl, K2.out.none A_2.out⟩
      · exact absurd hbad NR.out
    · have RM : Hid (Room L 8 dig) := Lib.hid (by unfold Room; rw [pfx8_length]; rw [pfx8_length] at hr; omega)
      have hem : emOf (L - (pfxOf 8).length - dig.length - 3) (pfxOf 8) dig = emL L (pfxOf 8) dig := rfl
      rw [hem] at hat8 ⊢
      rw [emL_length RM.out] at ⊢
      have F_8 := Lib.hid hat8
      have C := Lib.hid hsg
      clear hr hsg hem hat8
      go_wp2_with fail
      refine C.out.mono ?_
      intro e w9 h
      rcases h with ⟨hbad, _⟩ | ⟨_, g9, c9, cur, rfl, hg9, hb9, hc9, ht9, k9⟩
      · exact absurd RM.out hbad
      replace F_8 := Lib.hid (F_8.out.still k9)
      have HDG9 := Lib.hid (HDG8.out.still k9)
      have A_8 := A_2
      replace A_2 := Lib.hid (A_2.out.none k9)
      have BK := Lib.hid hb9
      have TK := Lib.hid ht9
      have G9 := Lib.hid hg9
      have K89 := Lib.hid k9
      obtain ⟨sg, hsgv⟩ : ∃ sg, sgn 8 dig = sg := ⟨_, rfl⟩
      have hsgl : sg.length = L := by rw [← hsgv]; exact SL.out _ _
      have hun : BytesAt w9 (some ⟨g9, 0, none⟩) (sgn 8 dig) := untouched hb9 ht9
      have C1 := Lib.hid (PU.out w9 aN (some ⟨g9, 0, none⟩) cN c9 8 dig (HN.out.still A_2.out) RM.out hun)
      have HUN := Lib.hid hun
      clear y0 y1 y2 y3 y4 C k9 hg9 hb9 ht9 hun
      have y0 : w9.cell? ⟨w1.heap.size, 0, none⟩ = some (.slice aN L cN) := (HB.out.kept A_2.out (fun e => e)).cellIs rfl
      have y1 : w9.cell? ⟨w1.heap.size, 1, none⟩ = some (.int .i64 65537) := (HB.out.kept A_2.out (fun e => e)).cellIs rfl
      have y2 : w9.cell? ⟨w1.heap.size, 2, none⟩ = some (.slice aD LD cD) := (HB.out.kept A_2.out (fun e => e)).cellIs rfl
      have y3 : w9.cell? ⟨w1.heap.size, 3, none⟩ = some (.slice aP LP cP) := (HB.out.kept A_2.out (fun e => e)).cellIs rfl
      have y4 : w9.cell? ⟨w1.heap.size, 4, none⟩ = some (.slice aQ LQ cQ) := (HB.out.kept A_2.out (fun e => e)).cellIs rfl
      go_wp2_with fail
      refine C1.out.mono ?_
      rintro e w10 ⟨A10, c10, rfl, hat10, k10⟩
      have hsm := same_any w10 A10 A8 c10 c8 (emL L (pfxOf 8) dig) (emL L (pfxOf 8) dig) hat10 (F_8.out.still k10)
      rw [beq_self_eq_true, emL_length RM.out] at hsm
      have C2 := Lib.hid hsm
      have B_2 := Lib.hid (A_2.out.none k10)
      have hver := VE.out w10 8 ⟨#[]⟩ HNAME.out ea ev aN D (some ⟨g9, 0, none⟩) cN cap c9 dig (sgn 8 dig) (HN.out.still B_2.out) (HG.out.still (K2.out.none B_2.out)) (HVE.out.still (K2.out.none B_2.out)) (HDG9.out.still k10) DLE.out HSZ.out (HUN.out.still k10) (SL.out _ _) RM.out
      rw [beq_self_eq_true] at hver
      have C3 := Lib.hid hver
      have K910 := Lib.hid k10
      clear hat10 k10 hsm hver C1 y0 y1 y2 y3 y4 A_2 F_8
      have A_2 := B_2
      clear B_2
      have y0 : w10.cell? ⟨w1.heap.size, 0, none⟩ = some (.slice aN L cN) := (HB.out.kept A_2.out (fun e => e)).cellIs rfl
      have y1 : w10.cell? ⟨w1.heap.size, 1, none⟩ = some (.int .i64 65537) := (HB.out.kept A_2.out (fun e => e)).cellIs rfl
      have y2 : w10.cell? ⟨w1.heap.size, 2, none⟩ = some (.slice aD LD cD) := (HB.out.kept A_2.out (fun e => e)).cellIs rfl
      have y3 : w10.cell? ⟨w1.heap.size, 3, none⟩ = some (.slice aP LP cP) := (HB.out.kept A_2.out (fun e => e)).cellIs rfl
      have y4 : w10.cell? ⟨w1.heap.size, 4, none⟩ = some (.slice aQ LQ cQ) := (HB.out.kept A_2.out (fun e => e)).cellIs rfl
      go_wp2_with fail
      refine C2.out.mono ?_
      rintro e w' ⟨rfl, rfl⟩
      clear C2
      go_wp2_with fail
      refine C3.out.mono ?_
      rintro e w11 ⟨rfl, k11⟩
      have K11 := Lib.hid (K910.out.none k11)
      replace A_2 := Lib.hid (A_2.out.none k11)
      clear C3 k11 y0 y1 y2 y3 y4 K910
      -- the signature's byte
      obtain ⟨j, hj⟩ : ∃ j, tt % L = j := ⟨_, rfl⟩
      have hjL : j < L := by rw [← hj]; exact Nat.mod_lt _ (by omega)
      have wt : (tt : Int).tmod (L : Int) = (j : Int) := by rw [Int.tmod_eq_emod_of_nonneg (by omega), ← hj]; simp
      have wtt : wrap64 (tt : Int) = (tt : Int) := w64' _ (by omega)
      have wj : wrap64 (j : Int) = (j : Int) := w64' _ (by omega)
      have wne : ((L : Int) == 0) = false := by rw [beq_eq_false_iff_ne]; omega
      have hjs : j < sg.length := by rw [hsgl]; exact hjL
      obtain ⟨x, hx⟩ : ∃ x, sg[j]? = some x := get_some hjs
      have hB11 := BK.out.kept K11.out (fun e => e)
      have cx : w11.cell? ⟨g9, j, none⟩ = some (.int .u8 (x.toNat : Int)) := by
        have h := untouched hB11 (xs := sg) (by rw [← hsgv]; exact TK.out)
        obtain ⟨b, off, e, _, hc⟩ := h.at_ (k := j) hjs
        cases e
        have := hc j x hx
        rw [Nat.zero_add] at this
        exact this
      have fx : w11.frozen? ⟨g9, j, none⟩ = false := hB11.frozen j
      have hxor := xor_u8 x by_
      obtain ⟨z, hz⟩ : ∃ z, x ^^^ by_ = z := ⟨_, rfl⟩
      rw [hz] at hxor
      have hnew : BytesAt (w11.setCell ⟨g9, j, none⟩ (.int .u8 (z.toNat : Int))) (some ⟨g9, 0, none⟩) (sg.set j z) := turned_at hB11 (by rw [← hsgv]; exact TK.out) hsgl hjL
      have k811 := Kept.none K89.out K11.out
      have k8s := Kept.setNew k811 G9.out j (Value.int .u8 (z.toNat : Int))
      have hjl : (j : Int) < (L : Int) := Int.ofNat_lt.2 hjL
      have B_2 := Lib.hid (A_8.out.none k8s)
      have hver := VE.out (w11.setCell ⟨g9, j, none⟩ (.int .u8 (z.toNat : Int))) 8 ⟨#[]⟩ HNAME.out ea ev aN D (some ⟨g9, 0, none⟩) cN cap c9 dig (sg.set j z) (HN.out.still B_2.out) (HG.out.still (K2.out.none B_2.out)) (HVE.out.still (K2.out.none B_2.out)) (HDG8.out.still k8s) DLE.out HSZ.out hnew (by rw [List.length_set]; exact hsgl) RM.out
      rw [hsgv] at hver
      have hres : (sg.set j z == sg) = ((by_.toNat : Int) == 0) := by
        have hxj : sg[j] = x := by rw [List.getElem?_eq_getElem hjs] at hx; exact Option.some.inj hx
        by_cases h0 : by_ = 0
        · rw [h0, UInt8.xor_zero] at hz
          rw [← hz, ← hxj, List.set_getElem_self, beq_self_eq_true]
          rw [h0]
          rfl
        · rw [show (sg.set j z == sg) = false from ?_]
          · symm
            rw [beq_eq_false_iff_ne]
            intro h
            exact h0 (byte_zero.1 h)
          · rw [beq_eq_false_iff_ne]
            intro h
            apply h0
            have h5 := congrArg (fun l => l[j]?) h
            simp only [List.getElem?_set_self hjs, hx, Option.some.injEq] at h5
            exact xor_ne x by_ (hz.trans h5)
      rw [hres] at hver
      have C4 := Lib.hid hver
      clear hver hres hnew k8s hB11 hx hz hj hsgv hsgl hjs K11 BK TK K89 G9 HUN A_8 RM
      have y0 : (w11.setCell ⟨g9, j, none⟩ (.int .u8 (z.toNat : Int))).cell? ⟨w1.heap.size, 0, none⟩ = some (.slice aN L cN) := (HB.out.kept B_2.out (fun e => e)).cellIs rfl
      have y1 : (w11.setCell ⟨g9, j, none⟩ (.int .u8 (z.toNat : Int))).cell? ⟨w1.heap.size, 1, none⟩ = some (.int .i64 65537) := (HB.out.kept B_2.out (fun e => e)).cellIs rfl
      have y2 : (w11.setCell ⟨g9, j, none⟩ (.int .u8 (z.toNat : Int))).cell? ⟨w1.heap.size, 2, none⟩ = some (.slice aD LD cD) := (HB.out.kept B_2.out (fun e => e)).cellIs rfl
      have y3 : (w11.setCell ⟨g9, j, none⟩ (.int .u8 (z.toNat : Int))).cell? ⟨w1.heap.size, 3, none⟩ = some (.slice aP LP cP) := (HB.out.kept B_2.out (fun e => e)).cellIs rfl
      have y4 : (w11.setCell ⟨g9, j, none⟩ (.int .u8 (z.toNat : Int))).cell? ⟨w1.heap.size, 4, none⟩ = some (.slice aQ LQ cQ) := (HB.out.kept B_2.out (fun e => e)).cellIs rfl
      go_wp2_with fail
      refine C4.out.mono ?_
      rintro e w12 ⟨rfl, k12⟩
      have KF := Lib.hid ((K2.out.none B_2.out).none k12)
      clear k12 C4 y0 y1 y2 y3 y4
      obtain ⟨bb, hbb⟩ : ∃ bb, ((by_.toNat : Int) == 0) = bb := ⟨_, rfl⟩
      rw [hbb]
      go_wp2_with fail
      go_ret
      exact ⟨by first | rfl | simp, KF.out⟩

end Go.Proofs.YtdmpiecdpdknaaaGreatDoor
