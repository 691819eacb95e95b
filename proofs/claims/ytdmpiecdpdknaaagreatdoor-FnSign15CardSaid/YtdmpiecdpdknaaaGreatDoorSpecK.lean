/-
  spec.over, small, less1, Secret.
-/
import Derived.Test.YtdmpiecdpdknaaaGreatDoorSpecN4
import Derived.Test.YtdmpiecdpdknaaaGreatDoorPrivN
namespace Go.Proofs.YtdmpiecdpdknaaaGreatDoor
open Go.RowKit

set_option maxHeartbeats 1600000 in
set_option maxRecDepth 20000 in
theorem over_any (w : World) (A : Option Addr) (c n : Nat) (xs : List UInt8) (hx : BytesAt w A xs) (hl : xs.length ≤ 100000) (hn : 0 < n) (hn2 : n ≤ 1000000) :
    Calls Tryz.prog 32 #[.slice A xs.length c, .int .i64 (n : Int)] w (GaveB (encT (num xs / n)) w) := by
  have hown0 : (w.alloc (.cells #[] 5)).ownsRow w.heap.size 5 1 (.slice (some ⟨w.heap.size, 0, none⟩) 0 0) 0 [] := own_row w [] (by decide)
  have HX := Lib.hid hx
  have HO0 := Lib.hid hown0
  clear hx hown0
  go_enter Tryz.func32, Tryz.ntmps32
  go_wp2_with fail
  go_loopw [5, 6, 12] (fun v rv iv wr => ∃ (i : Nat) (o : List UInt8), i ≤ xs.length ∧ iv = .int .i64 (i : Int) ∧ rv = .int .i64 ((num (xs.take i) % n : Nat) : Int) ∧ o.length = i ∧ num o = num (xs.take i) / n ∧ wr.ownsRow w.heap.size 5 1 v o.length (o.map B) ∧ Kept NoBlk w wr) (fun _ _ iv _ => xs.length - (intOf iv).toNat)
  case atStart => exact ⟨0, [], Nat.zero_le _, rfl, by simp [num], rfl, by simp [num], HO0.out, (Kept.refl _ w).alloc _⟩
  case round =>
    obtain ⟨i, o, hi, rfl, rfl, hol, hov, ho, hk⟩ := hrel
    have HOL := Lib.hid hol
    have HK := Lib.hid hk
    rcases Nat.lt_or_ge i xs.length with hlt | hge
    · obtain ⟨x, hxi⟩ : ∃ x, xs[i]? = some x := ⟨_, List.getElem?_eq_getElem hlt⟩
      obtain ⟨b, off, rfl, hb, hcell⟩ := (HX.out.still hk).at_ (k := 0) (by omega)
      have cx : wr.cell? ⟨b, off + i, none⟩ = some (.int .u8 (x.toNat : Int)) := hcell _ x hxi
      have htk : num (xs.take (i + 1)) = num (xs.take i) * 256 + x.toNat := by
        rw [List.take_add_one, hxi]; exact num_snoc _ _
      obtain ⟨p, hp⟩ : ∃ p, num (xs.take i) = p := ⟨_, rfl⟩
      rw [hp] at htk hov ⊢
      have hst := over_step p x.toNat n hn
      have bx := byte_le x
      have hlt2 := over_byte p x.toNat n hn bx
      obtain ⟨r, hr⟩ : ∃ r, p % n = r := ⟨_, rfl⟩
      rw [hr] at hst hlt2 ⊢
      have hrn : r < n := by rw [← hr]; exact Nat.mod_lt _ hn
      obtain ⟨s, hs⟩ : ∃ s, 256 * r + x.toNat = s := ⟨_, rfl⟩
      have hsi : 256 * (r : Int) + (x.toNat : Int) = (s : Int) := by omega
      have hsl : (s : Int) ≤ 300000000 := by omega
      rw [hs] at hst hlt2
      obtain ⟨y, hy⟩ : ∃ y : UInt8, y = UInt8.ofNat (s / n) := ⟨_, rfl⟩
      have hyn : y.toNat = s / n := by rw [hy, toNat_of, Nat.mod_eq_of_lt hlt2]
      have by_ := byte_le y
      have hquo : (s : Int).tdiv (n : Int) = (y.toNat : Int) := by
        rw [hyn, Int.tdiv_eq_ediv_of_nonneg (by omega)]; simp
      have hmod : (s : Int).tmod (n : Int) = ((s % n : Nat) : Int) := by
        rw [Int.tmod_eq_emod_of_nonneg (by omega)]; simp
      have hsn : s % n < n := Nat.mod_lt _ hn
      have hyu : (y.toNat : Int) % 256 = (y.toNat : Int) := by omega
      have hne : ((n : Int) == 0) = false := by rw [beq_eq_false_iff_ne]; omega
      have HOV : Hid (num (o ++ [y]) = num (xs.take (i + 1)) / n) := Lib.hid (by rw [num_snoc, hov, htk, hst.2, hyn])
      have HM : Hid (num (xs.take (i + 1)) % n = s % n) := Lib.hid (by rw [htk, ← hst.1])
      have HO := Lib.hid ho
      clear hxi hcell htk hst hr hp hs hy hyn hlt2 hov hol ho hk
      go_wp2_with (at_builtin; refine wpList_append_bytes _ rfl _ _ rfl w.heap.size _ o rfl (own_still HO.out ((Kept.refl NoBlk _).alloc _)) _ 1 _ [y] rfl rfl (bytesAt_new _ 5 [y] _ (by simp)) (by have := HOL.out; simp; omega) (by have := HK.out.size; simp; omega) ?_; intro v2 w2 hown2 hgrow)
      go_roundw
      case rel => exact ⟨i + 1, o ++ [y], by omega, by go_num, by rw [HM.out]; simp, by simp [HOL.out], HOV.out, hown2, (HK.out.alloc _).grow (own_still HO.out ((Kept.refl NoBlk _).alloc _)) (Nat.le_refl _) hgrow⟩
      case measure => first | (simp [intOf]; done) | (simp [intOf]; omega)
    · obtain rfl : i = xs.length := by omega
      rw [List.take_length] at hov ⊢
      obtain ⟨A1, c1, rfl, h1, _, hat1, _⟩ := own_form ho
      have htr := trimmed_any wr A1 c1 o hat1 h1 (by rw [hol]; omega)
      rw [trim_eq_encT, hov] at htr
      have HT := Lib.hid htr
      clear htr ho hat1 hk hov hol
      go_wp2_with fail
      refine HT.out.mono ?_
      rintro e w1 ⟨A2, c2, rfl, hat, hc2, hk⟩
      have FIN : Hid (GaveB (encT (num xs / n)) w (.returned (.slice A2 (encT (num xs / n)).length c2)) w1) := Lib.hid ⟨A2, c2, rfl, hat, hc2, HK.out.none hk⟩
      clear hat hk HT
      go_wp2_with fail
      go_ret
      exact FIN.out

theorem num_four (n : Nat) (h : n < 4294967296) : num [UInt8.ofNat (n / 16777216), UInt8.ofNat (n / 65536), UInt8.ofNat (n / 256), UInt8.ofNat n] = n := by
  simp only [toNat_of, num, List.length_cons, List.length_nil, Pb]
  omega

theorem small_any (n : Nat) (hn : n < 4294967296) (w : World) :
    Calls Tryz.prog 29 #[.int .i64 (n : Int)] w (GaveB (encT n) w) := by
  have hv := num_four n hn
  obtain ⟨a, ha⟩ : ∃ a, n / 16777216 = a := ⟨_, rfl⟩
  obtain ⟨b, hb⟩ : ∃ b, n / 65536 = b := ⟨_, rfl⟩
  obtain ⟨c, hc⟩ : ∃ c, n / 256 = c := ⟨_, rfl⟩
  rw [ha, hb, hc] at hv
  have h24 := shr_natE n 24 a (by omega)
  have h16 := shr_natE n 16 b (by omega)
  have h8 := shr_natE n 8 c (by omega)
  have he : (#[.int .u8 ((n : Int) / 16777216), .int .u8 ((n : Int) / 65536 % 256), .int .u8 ((n : Int) / 256 % 256), .int .u8 ((n : Int) % 256)] : Array Value) = ([UInt8.ofNat a, UInt8.ofNat b, UInt8.ofNat c, UInt8.ofNat n].map B).toArray := by
    have e1 : ((UInt8.ofNat a).toNat : Int) = (n : Int) / 16777216 := by rw [toNat_of]; omega
    have e2 : ((UInt8.ofNat b).toNat : Int) = (n : Int) / 65536 % 256 := by rw [toNat_of]; omega
    have e3 : ((UInt8.ofNat c).toNat : Int) = (n : Int) / 256 % 256 := by rw [toNat_of]; omega
    have e4 : ((UInt8.ofNat n).toNat : Int) = (n : Int) % 256 := by rw [toNat_of]; omega
    show _ = #[Value.int .u8 ((UInt8.ofNat a).toNat : Int), Value.int .u8 ((UInt8.ofNat b).toNat : Int), Value.int .u8 ((UInt8.ofNat c).toNat : Int), Value.int .u8 ((UInt8.ofNat n).toNat : Int)]
    rw [e1, e2, e3, e4]
  have HT : Hid (Calls Tryz.prog 38 #[.slice (some ⟨w.heap.size, 0, none⟩) 4 4] (w.alloc (.cells #[.int .u8 ((n : Int) / 16777216), .int .u8 ((n : Int) / 65536 % 256), .int .u8 ((n : Int) / 256 % 256), .int .u8 ((n : Int) % 256)] 5)) (GaveB (encT n) (w.alloc (.cells #[.int .u8 ((n : Int) / 16777216), .int .u8 ((n : Int) / 65536 % 256), .int .u8 ((n : Int) / 256 % 256), .int .u8 ((n : Int) % 256)] 5)))) := by
    rw [he]
    have h := trimmed_any _ (some ⟨w.heap.size, 0, none⟩) 4 _ (bytesAt_new w 5 [UInt8.ofNat a, UInt8.ofNat b, UInt8.ofNat c, UInt8.ofNat n] w.heap.size rfl) (Nat.le_refl _) (by simp)
    rw [trim_eq_encT, hv] at h
    exact Lib.hid h
  clear hv ha hb hc he
  go_enter Tryz.func29, Tryz.ntmps29
  go_wp2_with fail
  refine HT.out.mono ?_
  rintro e w1 ⟨A2, c2, rfl, hat, hc2, hk⟩
  have FIN : Hid (GaveB (encT n) w (.returned (.slice A2 (encT n).length c2)) w1) := Lib.hid ⟨A2, c2, rfl, hat, hc2, ((Kept.refl _ w).alloc _).none hk⟩
  clear hat hk HT
  go_wp2_with fail
  go_ret
  exact FIN.out

theorem less1_any (w : World) (A : Option Addr) (c : Nat) (xs : List UInt8) (hx : BytesAt w A xs) (hl : xs.length ≤ 100000) (h1 : 1 ≤ num xs) :
    Calls Tryz.prog 27 #[.slice A xs.length c] w (MadeB (enc xs.length (num xs - 1)) w) := by
  have hlt := num_lt xs
  have hL : 0 < xs.length := by
    rcases Nat.eq_zero_or_pos xs.length with h | h
    · rw [h] at hlt; have : Pb 0 = 1 := rfl; omega
    · exact h
  have hone : num (enc xs.length (num [1])) = 1 := by
    rw [num_enc_of_lt]
    · rfl
    · show 1 < Pb xs.length
      have := Pb_le (show 1 ≤ xs.length from hL)
      have : Pb 1 = 256 := rfl
      omega
  have hval : (((num xs : Int) - num (enc xs.length (num [1]))) % (Pb xs.length : Nat)).toNat = num xs - 1 := by
    rw [hone, Int.emod_eq_of_lt (by omega) (by omega)]; omega
  obtain ⟨N, hN⟩ : ∃ N, xs.length = N := ⟨_, rfl⟩
  have hw := wide_any (w.alloc (.cells #[.int .u8 1] 5)) (some ⟨w.heap.size, 0, none⟩) 1 N [1] (bytesAt_new w 5 [1] _ rfl) (by decide) (by decide) (by omega)
  rw [hN] at hval hl ⊢
  have HX := Lib.hid hx
  have HW := Lib.hid hw
  have HV := Lib.hid hval
  have HN := Lib.hid hN
  clear hx hw hval hlt hone hN h1
  go_enter Tryz.func27, Tryz.ntmps27
  go_wp2_with fail
  refine HW.out.mono ?_
  rintro e w1 ⟨g, rfl, hg, hb, hk⟩
  rw [enc_length]
  have k1 : Kept NoBlk w w1 := ((Kept.refl NoBlk w).alloc _).none hk
  have hm := minus_any w1 A (some ⟨g, 0, none⟩) c N N xs (enc N (num [1])) (HX.out.still k1) hb.bytes HN.out (enc_length _ _) (by omega)
  rw [HV.out] at hm
  have HM := Lib.hid hm
  have HK := Lib.hid k1
  clear hm k1 hk hb hg HW
  go_wp2_with fail
  refine HM.out.mono ?_
  rintro e w2 ⟨g2, rfl, hg2, hb2, hk2⟩
  have FIN : Hid (MadeB (enc N (num xs - 1)) w (.returned (.slice (some ⟨g2, 0, none⟩) (enc N (num xs - 1)).length (enc N (num xs - 1)).length)) w2) := Lib.hid ⟨g2, rfl, Nat.le_trans HK.out.size hg2, hb2, HK.out.none hk2⟩
  clear hb2 hk2 HM
  go_wp2_with fail
  go_ret
  exact FIN.out

/-- The greatest numbers here. -/
theorem Duo.small {a b : Nat} (h : Duo a b) : phiOf a b * kOf (a + b) + 1 < 2 ^ (8 * 84) ∧ phiOf a b < 2 ^ (8 * 81) := by
  have h1 := h.hi
  have h20 : ∀ K, a + b ≤ K → 2 ^ (a + b) ≤ 2 ^ K := fun K h => Nat.pow_le_pow_right (by decide) h
  have h2 := h20 (8 * 81) (by have := h.sum; omega)
  clear h20
  have h3 : phiOf a b ≤ Mp a * Mp b := Nat.mul_le_mul (Nat.sub_le _ _) (Nat.sub_le _ _)
  have h4 : phiOf a b < 2 ^ (8 * 81) := by
    generalize 2 ^ (8 * 81) = X at *
    generalize 2 ^ (a + b) = Y at *
    omega
  refine ⟨?_, h4⟩
  have h5 := Nat.mul_le_mul (Nat.le_of_lt h4) (Nat.le_of_lt h.k2)
  have h70 : ∀ K, 0 < 2 ^ K := fun K => Nat.pow_pos (by decide)
  have h7 := h70 (8 * 81)
  clear h70
  have h6 : 2 ^ (8 * 84) = 2 ^ (8 * 81) * 2 ^ 24 := by
    have h8 := Nat.pow_add 2 (8 * 81) 24
    rw [show 8 * 81 + 24 = 8 * 84 from rfl] at h8
    exact h8
  rw [h6]
  generalize 2 ^ (8 * 81) = X at *
  omega
theorem encT_le (n k : Nat) (h : n < 2 ^ (8 * k)) : (encT n).length ≤ k := by
  rw [encT_length_bits]
  have := (bitLen_le n (8 * k)).2 h
  omega

set_option maxRecDepth 200000 in
theorem secret_any (a b : Nat) (hd : Duo a b) (w : World) (A A' : Option Addr) (c c' : Nat) (hx : BytesAt w A (mers a)) (hy : BytesAt w A' (mers b)) :
    Calls Tryz.prog 16 #[.slice A (mers a).length c, .slice A' (mers b).length c'] w (GaveB (encT (secOf a b)) w) := by
  have la := hd.la
  have lb := hd.lb
  have na := hd.na
  have nb := hd.nb
  have hsum := hd.sum
  obtain ⟨m1, m2⟩ := hd.big
  have c1 : 1 ≤ num (mers a) ∧ (mers a).length ≤ 100000 := by rw [na, la]; omega
  have c2 : 1 ≤ num (mers b) ∧ (mers b).length ≤ 100000 := by rw [nb, lb]; omega
  have e1 : num (enc (mers a).length (num (mers a) - 1)) = Mp a - 1 := by
    rw [num_enc_of_lt (by have := num_lt (mers a); omega), na]
  have e2 : num (enc (mers b).length (num (mers b) - 1)) = Mp b - 1 := by
    rw [num_enc_of_lt (by have := num_lt (mers b); omega), nb]
  obtain ⟨s1, s2⟩ := hd.small
  have HL1 := Lib.hid (less1_any w A c (mers a) hx c1.2 c1.1)
  have HL2 : Hid (∀ w', Kept NoBlk w w' → _) := Lib.hid (fun w' k => less1_any w' A' c' (mers b) (hy.still k) c2.2 c2.1)
  have HPR : Hid (∀ (w' : World) (B1 B2 : Option Addr) (d1 d2 : Nat), BytesAt w' B1 (enc (mers a).length (num (mers a) - 1)) → BytesAt w' B2 (enc (mers b).length (num (mers b) - 1)) → Calls Tryz.prog 26 #[.slice B1 (enc (mers a).length (num (mers a) - 1)).length d1, .slice B2 (enc (mers b).length (num (mers b) - 1)).length d2] w' (GaveB (encT (phiOf a b)) w')) := Lib.hid (fun w' B1 B2 d1 d2 h1 h2 => by
    have h := product_any w' B1 B2 d1 d2 _ _ h1 h2 (by rw [enc_length]; exact c1.2) (by rw [enc_length]; exact c2.2)
    rw [e1, e2] at h
    exact h)
  have lphi := encT_le (phiOf a b) 81 s2
  have lall := encT_le (phiOf a b * kOf (a + b)) 84 (Nat.lt_of_succ_lt s1)
  obtain ⟨k, hk⟩ : ∃ k, kOf (a + b) = k := ⟨_, rfl⟩
  obtain ⟨phi, hphi⟩ : ∃ phi, phiOf a b = phi := ⟨_, rfl⟩
  obtain ⟨r, hr⟩ : ∃ r, phi % 65537 = r := ⟨_, rfl⟩
  have hk1 := hd.k1
  have hk2 := hd.k2
  have hkz := hd.kz
  have huniq : ∀ j : Nat, j < 65537 → (j * (phiOf a b % 65537) + 1) % 65537 = 0 → j = kOf (a + b) := fun j h1 h2 => hd.uniq h1 h2
  have hsec : (phi * k + 1) / 65537 = secOf a b := by rw [← hphi, ← hk]; rfl
  rw [hphi, hk] at lall
  rw [hphi] at lphi
  rw [hphi, hk] at s1
  rw [hphi] at HPR
  rw [hphi, hr, hk] at hkz
  rw [hphi, hr] at huniq
  rw [hk] at hk1 hk2 huniq
  have hr2 : r < 65537 := by rw [← hr]; exact Nat.mod_lt _ (by decide)
  have HS := Lib.hid hsec
  have HUN := Lib.hid huniq
  have HKZ := Lib.hid hkz
  have HR := Lib.hid hr
  have HK2 : Hid (k < 65537) := Lib.hid hk2
  have hki : (k : Int) < 65537 := by omega
  have hri : (r : Int) < 65537 := by omega
  have HLA := Lib.hid lall
  have HLP := Lib.hid lphi
  clear la lb na nb hsum m1 m2 c1 c2 e1 e2 s1 s2 hk hphi hr hsec huniq hkz hk2 hr2 hx hy hd lall lphi
  go_enter Tryz.func16, Tryz.ntmps16
  go_wp2_with fail
  refine HL1.out.mono ?_
  rintro e w1 ⟨g1, rfl, hg1, hb1, kk1⟩
  have HB1 := Lib.hid hb1
  have HC2 := Lib.hid (HL2.out w1 kk1)
  have HK1 := Lib.hid kk1
  clear hb1 kk1 HL1 HL2
  go_wp2_with fail
  refine HC2.out.mono ?_
  rintro e w2 ⟨g2, rfl, hg2, hb2, kk2⟩
  have HC3 := Lib.hid (HPR.out w2 _ _ (enc (mers a).length (num (mers a) - 1)).length (enc (mers b).length (num (mers b) - 1)).length (HB1.out.kept kk2 (fun e => e)).bytes hb2.bytes)
  have HK2' := Lib.hid (HK1.out.none kk2)
  clear hb2 kk2 HC2 HPR HB1 HK1
  go_wp2_with fail
  refine HC3.out.mono ?_
  rintro e w3 ⟨A3, c3, rfl, hat3, hc3, kk3⟩
  have hrest := rest_any w3 A3 c3 65537 (encT phi) hat3 (by have := HLP.out; omega) (by decide) (by decide)
  rw [num_encT, HR.out] at hrest
  have HC4 := Lib.hid hrest
  have HAT3 := Lib.hid hat3
  have HK3 := Lib.hid (HK2'.out.none kk3)
  clear hrest hat3 kk3 HC3 HK2'
  go_wp2_with fail
  refine HC4.out.mono ?_
  rintro e w4 ⟨rfl, rfl⟩
  clear HC4
  go_wp2_with fail
  go_loop [7] (fun iv => ∃ j : Nat, 1 ≤ j ∧ j ≤ k ∧ iv = .int .i64 (j : Int)) (fun iv => k - (intOf iv).toNat)
  case atStart => exact ⟨1, Nat.le_refl _, hk1, rfl⟩
  case round =>
    obtain ⟨j, hj1, hj, rfl⟩ := hrel
    have hjlt : (j : Int) < 65537 := by omega
    obtain ⟨x, hx⟩ : ∃ x, j * r = x := ⟨_, rfl⟩
    have hxl : x ≤ 65537 * 65537 := by
      rw [← hx]; exact Nat.mul_le_mul (by omega) (by omega)
    have hxi : (j : Int) * (r : Int) = (x : Int) := by rw [← hx]; simp
    have hxl2 : (x : Int) ≤ 5000000000 := by omega
    have hmod : ((x : Int) + 1).tmod 65537 = (((x + 1) % 65537 : Nat) : Int) := by
      rw [Int.tmod_eq_emod_of_nonneg (by omega)]; omega
    rcases Nat.lt_or_ge j k with hlt | hge
    · have hne : ¬ (x + 1) % 65537 = 0 := by
        intro hz
        have := HUN.out j (by omega) (by rw [hx]; exact hz)
        omega
      obtain ⟨z, hz⟩ : ∃ z, (x + 1) % 65537 = z := ⟨_, rfl⟩
      rw [hz] at hmod hne
      have hzb : ((z : Int) == 0) = false := by rw [beq_eq_false_iff_ne]; omega
      clear hz hne hx hxl
      go_wp2_with fail
      go_round
      case rel => exact ⟨j + 1, by omega, by omega, by go_num⟩
      case measure => first | (simp [intOf]; done) | (simp [intOf]; omega)
    · obtain rfl : j = k := by omega
      rw [← hx, HKZ.out] at hmod
      rw [hx] at hmod
      have hzb : ((0 : Int) == 0) = true := rfl
      have hsm := Lib.hid (small_any j (by omega) w3)
      clear hx hxl HUN
      go_wp2_with fail
      refine hsm.out.mono ?_
      rintro e w5 ⟨A5, c5, rfl, hat5, hc5, k5⟩
      have hpr := product_any w5 A3 A5 c3 c5 (encT phi) (encT j) (HAT3.out.still k5) hat5 (by have := HLP.out; omega) (by have := encT_le j 4 (by omega); omega)
      rw [num_encT, num_encT] at hpr
      have HP := Lib.hid hpr
      have K5 := Lib.hid (HK3.out.none k5)
      clear hpr hat5 k5 hsm
      go_wp2_with fail
      refine HP.out.mono ?_
      rintro e w6 ⟨A6, c6, rfl, hat6, hc6, k6⟩
      obtain ⟨L, hL⟩ : ∃ L, (encT (phi * j)).length = L := ⟨_, rfl⟩
      rw [hL] at hc6
      have hL84 : L ≤ 84 := by rw [← hL]; exact HLA.out
      have hl1 := num_lt (encT (phi * j))
      rw [num_encT, hL] at hl1
      have hPb : Pb L * 256 = Pb (L + 1) := by rw [Pb_succ, Nat.mul_comm]
      have hp1 := Pb_pos L
      have n1 : num (enc (L + 1) (num (encT (phi * j)))) = phi * j := by rw [num_encT]; exact num_enc_of_lt (by omega)
      have n2 : num (enc (L + 1) (num [1])) = 1 := num_enc_of_lt (by show 1 < _; omega)
      have n3 : num (enc (L + 1) (phi * j + 1)) = phi * j + 1 := num_enc_of_lt (by omega)
      have hw1 := wide_any w6 A6 c6 (L + 1) (encT (phi * j)) hat6 (by rw [hL]; exact hc6) (by omega) (by omega)
      rw [hL] at hw1 ⊢
      have W1 := Lib.hid hw1
      have K6 := Lib.hid (K5.out.none k6)
      have N1 := Lib.hid n1
      have N2 := Lib.hid n2
      have N3 := Lib.hid n3
      obtain ⟨M, hM⟩ : ∃ M, L + 1 = M := ⟨_, rfl⟩
      rw [hM] at W1 N1 N2 N3
      have hLi : (L : Int) + 1 = (M : Int) := by omega
      have hM85 : M ≤ 85 := by omega
      clear hw1 hat6 k6 hl1 hPb hp1 n1 n2 n3 HP K5 hL hM
      go_wp2_with fail
      refine W1.out.mono ?_
      rintro e w7 ⟨g7, rfl, hg7, hb7, k7⟩
      rw [enc_length]
      have W2 := Lib.hid (wide_any (w7.alloc (.cells #[.int .u8 1] 5)) (some ⟨w7.heap.size, 0, none⟩) 1 M [1] (bytesAt_new w7 5 [1] _ rfl) (by decide) (by decide) (by omega))
      have HB7 := Lib.hid hb7
      have K7 := Lib.hid (K6.out.none k7)
      clear hb7 k7 W1 K6
      go_wp2_with fail
      refine W2.out.mono ?_
      rintro e w8 ⟨g8, rfl, hg8, hb8, k8⟩
      rw [enc_length]
      have k78 : Kept NoBlk w7 w8 := ((Kept.refl NoBlk w7).alloc _).none k8
      have hpl := plus_any w8 (some ⟨g7, 0, none⟩) (some ⟨g8, 0, none⟩) M M M _ _ (HB7.out.kept k78 (fun e => e)).bytes hb8.bytes (enc_length _ _) (enc_length _ _) (by omega)
      rw [N1.out, N2.out] at hpl
      have W3 := Lib.hid hpl
      have K8 := Lib.hid (K7.out.none k78)
      clear hb8 k8 k78 W2 hpl K7 HB7
      go_wp2_with fail
      refine W3.out.mono ?_
      rintro e w9 ⟨g9, rfl, hg9, hb9, k9⟩
      have hov := over_any w9 (some ⟨g9, 0, none⟩) M 65537 _ hb9.bytes (by rw [enc_length]; omega) (by decide) (by decide)
      rw [enc_length, N3.out, HS.out] at hov
      have W4 := Lib.hid hov
      have K9 := Lib.hid (K8.out.none k9)
      clear hb9 k9 hov K8 W3
      go_wp2_with fail
      refine W4.out.mono ?_
      rintro e w10 ⟨A10, c10, rfl, hat10, hc10, k10⟩
      have FIN : Hid (GaveB (encT (secOf a b)) w (.returned (.slice A10 (encT (secOf a b)).length c10)) w10) := Lib.hid ⟨A10, c10, rfl, hat10, hc10, K9.out.none k10⟩
      clear hat10 k10 W4 K9
      go_wp2_with fail
      go_ret
      exact FIN.out

end Go.Proofs.YtdmpiecdpdknaaaGreatDoor
