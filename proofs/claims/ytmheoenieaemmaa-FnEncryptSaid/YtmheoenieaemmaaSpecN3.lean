/-
  spec.Power, rest.
-/
import Derived.Test.YtmheoenieaemmaaSpecN2
namespace Go.Proofs.Ytmheoenieaemmaa
open Go.RowKit

theorem and_one_i64 (x : Nat) (hx : x < 9223372036854775808) : bits .and .i64 (x : Int) 1 = ((x % 2 : Nat) : Int) := by
  have h1 : (BitVec.ofInt 64 (x : Int)).toNat = x := by
    rw [BitVec.ofInt_natCast, BitVec.toNat_ofNat]; exact Nat.mod_eq_of_lt (by omega)
  have h2 : (BitVec.ofInt 64 ((1 : Nat) : Int)).toNat = 1 := by
    rw [BitVec.ofInt_natCast, BitVec.toNat_ofNat]
  show IntKind.i64.wrap ((BitVec.ofInt 64 (x : Int) &&& BitVec.ofInt 64 ((1 : Nat) : Int)).toNat : Int) = _
  rw [BitVec.toNat_and, h1, h2, Nat.and_one_is_mod]
  exact IntWalk.i64_in _ (by omega)

theorem shr_natE (e s g : Nat) (h : e / 2 ^ s = g) : (e : Int) / 2 ^ s = (g : Int) := by rw [← h]; simp
theorem shr_two (e s : Nat) : e / 2 ^ s = 2 * (e / 2 ^ (s + 1)) + e / 2 ^ s % 2 := by
  rw [Nat.pow_succ, ← Nat.div_div_eq_div_mul]; omega

theorem power_any (w : World) (A A' : Option Addr) (c c' n e : Nat) (xs ms : List UInt8) (hx : BytesAt w A xs) (hm : BytesAt w A' ms) (hxc : xs.length ≤ c) (hxl : xs.length ≤ 1000000) (hml : ms.length = n) (hl : n ≤ 1000000) (hc : n ≤ c') (he : e < 2097152) (hm1 : 1 < num ms) (hlt : num xs < num ms) :
    Calls Try.prog 13 #[.slice A xs.length c, .int .i64 (e : Int), .slice A' n c'] w (MadeB (enc n (num xs ^ e % num ms)) w) := by
  have HX := Lib.hid (wide_any w A c n xs hx hxc (by omega) hl)
  have HM := Lib.hid hm
  have HML := Lib.hid hml
  have HE := Lib.hid he
  have H1 := Lib.hid hm1
  have HLT := Lib.hid hlt
  have hpn : num ms < Pb n := by rw [← hml]; exact num_lt ms
  have HPN := Lib.hid hpn
  clear hx hm hml hm1 hlt hpn
  go_enter Try.func13, Try.ntmps13
  go_wp2_with fail
  refine HX.out.mono ?_
  rintro e1 w1 ⟨g, rfl, hg, hb, hk⟩
  rw [enc_length]
  have hone := wide_any (w1.alloc (.cells #[.int .u8 1] 5)) (some ⟨w1.heap.size, 0, none⟩) 1 n [1] (bytesAt_new w1 5 [1] _ rfl) (by decide) (by decide) hl
  have HONE := Lib.hid hone
  have HK1 := Lib.hid hk
  have HB1 := Lib.hid hb
  clear hb hk hone HX
  go_wp2_with fail
  refine HONE.out.mono ?_
  rintro e2 w2 ⟨g2, rfl, hg2, hb2, hk2⟩
  rw [enc_length]
  have hnone : num (enc n (num [1])) = 1 := by
    rw [num_enc_of_lt]
    · rfl
    · have := HPN.out; have := H1.out; show 1 < Pb n; omega
  have hk02 := HK1.out.none ((((Kept.refl NoBlk w1).alloc (.cells #[.int .u8 1] 5))).none hk2)
  have hle := less_any w2 (some ⟨g2, 0, none⟩) A' n c' (enc n (num [1])) ms hb2.bytes (HM.out.still hk02) (by rw [enc_length]; exact Nat.le_refl _) (by rw [HML.out]; exact hc) (by rw [enc_length]; omega) (by rw [HML.out]; omega)
  rw [enc_length, HML.out, hnone, decide_eq_true H1.out] at hle
  have HLE := Lib.hid hle
  have HK2 := Lib.hid hk02
  have HB2 := Lib.hid hb2
  have HB12 := Lib.hid ((HB1.out.kept ((Kept.refl NoBlk w1).alloc (.cells #[.int .u8 1] 5)) (fun e => e)).kept hk2 (fun e => e))
  have hge2 : w.heap.size ≤ g2 := Nat.le_trans HK1.out.size (by have := ((Kept.refl NoBlk w1).alloc (.cells #[.int .u8 1] 5)).size; omega)
  clear hle hb2 hk2 hnone hk02 HONE HB1 HK1
  go_wp2_with fail
  refine HLE.out.mono ?_
  rintro e3 w3 ⟨rfl, hk3⟩
  have HK3 := Lib.hid (HK2.out.none hk3)
  have HB3 := Lib.hid (HB2.out.kept hk3 (fun e => e))
  have HB13 := Lib.hid (HB12.out.kept hk3 (fun e => e))
  clear hk3 HLE HB2 HB12 HK2
  go_wp2_with fail
  go_loopw [7, 8] (fun ov iv wr => ∃ (t q : Nat), t ≤ 21 ∧ iv = .int .i64 ((t : Int) - 1) ∧ ov = .slice (some ⟨q, 0, none⟩) n n ∧ w.heap.size ≤ q ∧ Blk wr q 5 ((enc n (num xs ^ (e / 2 ^ t) % num ms)).map B).toArray ∧ Kept NoBlk w wr ∧ Kept NoBlk w3 wr) (fun _ iv _ => (intOf iv + 1).toNat)
  case atStart => exact ⟨21, g2, Nat.le_refl _, rfl, rfl, hge2, by
    rw [Nat.div_eq_of_lt HE.out, Nat.pow_zero, Nat.mod_eq_of_lt H1.out]; exact HB3.out, HK3.out, Kept.refl _ _⟩
  case round =>
    obtain ⟨t, q, ht, rfl, rfl, hq, hb, hk, hk3⟩ := hrel
    obtain ⟨v, hv⟩ : ∃ v, num xs ^ (e / 2 ^ t) % num ms = v := ⟨_, rfl⟩
    rw [hv] at hb
    have HK := Lib.hid hk
    have HB := Lib.hid hb
    have HV := Lib.hid hv
    have HK3' := Lib.hid hk3
    have hmp : 0 < num ms := by have := H1.out; omega
    rcases Nat.eq_zero_or_pos t with h0 | h0
    · subst h0
      rw [Nat.pow_zero, Nat.div_one] at hv
      have hfin : MadeB (enc n (num xs ^ e % num ms)) w (.returned (.slice (some ⟨q, 0, none⟩) n n)) wr := ⟨q, by rw [enc_length], hq, by rw [hv]; exact hb, hk⟩
      have FIN := Lib.hid hfin
      clear hfin hb hk hv hmp hk3
      go_wp2_with fail
      go_ret
      exact FIN.out
    · obtain ⟨s, rfl⟩ : ∃ s, t = s + 1 := ⟨t - 1, by omega⟩
      obtain ⟨x, hx⟩ : ∃ x, e / 2 ^ s = x := ⟨_, rfl⟩
      have hsh := shr_natE e s x hx
      have hst := shr_two e s
      rw [hx] at hst
      have hes : ((s + 1 : Nat) : Int) - 1 = (s : Int) := by omega
      rw [hes]
      have hxl2 : x < 2097152 := by rw [← hx]; exact Nat.lt_of_le_of_lt (Nat.div_le_self _ _) HE.out
      have HX := Lib.hid hx
      have HST := Lib.hid hst
      have hs20 : s ≤ 20 := by omega
      by_cases hx0 : x = 0
      · subst hx0
        clear hx hst hb hk hv hk3 hmp
        go_wp2_with fail
        go_roundw
        case rel =>
          refine ⟨s, q, by omega, by go_num, rfl, hq, ?_, HK.out, HK3'.out⟩
          have h1 := HST.out
          have h2 := HV.out
          rw [show e / 2 ^ (s + 1) = 0 by omega] at h2
          rw [HX.out, h2]; exact HB.out
        case measure => first | (simp [intOf]; done) | (simp [intOf]; omega)
      · have hvlt : v < num ms := by rw [← hv]; exact Nat.mod_lt _ hmp
        have hnv : num (enc n v) = v := num_enc_of_lt (by have := HPN.out; omega)
        have HT := times_any wr (some ⟨q, 0, none⟩) (some ⟨q, 0, none⟩) A' n n c' n (enc n v) (enc n v) ms hb.bytes hb.bytes (HM.out.still hk) (enc_length _ _) HML.out hl (by rw [enc_length]; exact hl) hc (by rw [hnv]; exact hvlt)
        rw [hnv, enc_length] at HT
        have hsq : v * v % num ms = num xs ^ (2 * (e / 2 ^ (s + 1))) % num ms := by
          rw [← hv, ← Nat.mul_mod, ← Nat.pow_add, Nat.two_mul]
        rw [hsq] at HT
        have HT1 := Lib.hid HT
        have hand := and_one_i64 x (by omega)
        have hxe : ((x : Int) == 0) = false := by rw [beq_eq_false_iff_ne]; omega
        have hcase := Nat.mod_two_eq_zero_or_one x
        clear hx hst hb hk hv hk3 hvlt hnv HT hsq
        rcases hcase with h1 | h1
        · rw [h1] at hand
          have H2 := Lib.hid h1
          clear h1 hmp hx0
          go_wp2_with fail
          refine HT1.out.mono ?_
          rintro e4 w4 ⟨q4, rfl, hq4, hb4, hk4⟩
          rw [enc_length]
          have HK4 := Lib.hid (HK.out.none hk4)
          have HK34 := Lib.hid (HK3'.out.none hk4)
          have HB4 := Lib.hid hb4
          have hq5 : w.heap.size ≤ q4 := Nat.le_trans HK.out.size hq4
          clear hb4 hk4 HT1
          go_wp2_with fail
          go_roundw
          case rel =>
            refine ⟨s, q4, by omega, by go_num, rfl, hq5, ?_, HK4.out, HK34.out⟩
            have h3 := HST.out
            rw [H2.out] at h3
            rw [HX.out, h3]; exact HB4.out
          case measure => first | (simp [intOf]; done) | (simp [intOf]; omega)
        · rw [h1] at hand
          have H2 := Lib.hid h1
          clear h1 hx0
          go_wp2_with fail
          refine HT1.out.mono ?_
          rintro e4 w4 ⟨q4, rfl, hq4, hb4, hk4⟩
          rw [enc_length]
          obtain ⟨v2, hv2⟩ : ∃ v2, num xs ^ (2 * (e / 2 ^ (s + 1))) % num ms = v2 := ⟨_, rfl⟩
          rw [hv2] at hb4
          have hvlt : v2 < num ms := by rw [← hv2]; exact Nat.mod_lt _ hmp
          have hnv : num (enc n v2) = v2 := num_enc_of_lt (by have := HPN.out; omega)
          have hnx : num (enc n (num xs)) = num xs := num_enc_of_lt (by have := HPN.out; have := HLT.out; omega)
          have HT := times_any w4 (some ⟨q4, 0, none⟩) (some ⟨g, 0, none⟩) A' n n c' n (enc n v2) (enc n (num xs)) ms hb4.bytes ((HB13.out.kept HK3'.out (fun e => e)).kept hk4 (fun e => e)).bytes (HM.out.still (HK.out.none hk4)) (enc_length _ _) HML.out hl (by rw [enc_length]; exact hl) hc (by rw [hnv]; exact hvlt)
          rw [hnv, hnx, enc_length] at HT
          have hsq : num xs * v2 % num ms = num xs ^ (2 * (e / 2 ^ (s + 1)) + 1) % num ms := by
            rw [← hv2, Nat.mul_mod_mod]
            generalize 2 * (e / 2 ^ (s + 1)) = E
            rw [Nat.pow_succ, Nat.mul_comm]
          rw [hsq] at HT
          have HT2 := Lib.hid HT
          have HK4 := Lib.hid (HK.out.none hk4)
          have HK34 := Lib.hid (HK3'.out.none hk4)
          clear hb4 hk4 HT1 HT hsq hnx hnv hvlt hv2 hmp
          go_wp2_with fail
          refine HT2.out.mono ?_
          rintro e5 w5 ⟨q5, rfl, hq5, hb5, hk5⟩
          rw [enc_length]
          have HK5 := Lib.hid (HK4.out.none hk5)
          have HK35 := Lib.hid (HK34.out.none hk5)
          have HB5 := Lib.hid hb5
          have hq6 : w.heap.size ≤ q5 := Nat.le_trans HK4.out.size hq5
          clear hb5 hk5 HT2
          go_wp2_with fail
          go_roundw
          case rel =>
            refine ⟨s, q5, by omega, by go_num, rfl, hq6, ?_, HK5.out, HK35.out⟩
            have h3 := HST.out
            rw [H2.out] at h3
            rw [HX.out, h3]; exact HB5.out
          case measure => first | (simp [intOf]; done) | (simp [intOf]; omega)

theorem rest_any (w : World) (A : Option Addr) (c n : Nat) (xs : List UInt8) (hx : BytesAt w A xs) (hl : xs.length ≤ 1000000) (hn : 0 < n) (hn2 : n ≤ 1000000) :
    Calls Try.prog 39 #[.slice A xs.length c, .int .i64 (n : Int)] w fun e w' => e = .returned (.int .i64 ((num xs % n : Nat) : Int)) ∧ w = w' := by
  have HX := Lib.hid hx
  clear hx
  go_enter Try.func39, Try.ntmps39
  go_wp2_with fail
  go_loop [5, 10] (fun rv iv => ∃ i : Nat, i ≤ xs.length ∧ iv = .int .i64 (i : Int) ∧ rv = .int .i64 ((num (xs.take i) % n : Nat) : Int)) (fun _ iv => xs.length - (intOf iv).toNat)
  case atStart => exact ⟨0, Nat.zero_le _, rfl, by simp [num]⟩
  case round =>
    obtain ⟨i, hi, rfl, rfl⟩ := hrel
    rcases Nat.lt_or_ge i xs.length with hlt | hge
    · obtain ⟨x, hxi⟩ : ∃ x, xs[i]? = some x := ⟨_, List.getElem?_eq_getElem hlt⟩
      obtain ⟨b, off, rfl, hb, hcell⟩ := HX.out.at_ (k := 0) (by omega)
      have cx : w.cell? ⟨b, off + i, none⟩ = some (.int .u8 (x.toNat : Int)) := hcell _ x hxi
      have htk : num (xs.take (i + 1)) = num (xs.take i) * 256 + x.toNat := by
        rw [List.take_add_one, hxi]; exact num_snoc _ _
      obtain ⟨p, hp⟩ : ∃ p, num (xs.take i) = p := ⟨_, rfl⟩
      rw [hp] at htk ⊢
      obtain ⟨r, hr⟩ : ∃ r, p % n = r := ⟨_, rfl⟩
      have hst := (over_step p x.toNat n hn).1
      rw [hr] at hst ⊢
      have hrn : r < n := by rw [← hr]; exact Nat.mod_lt _ hn
      have bx := byte_le x
      have hmod : (256 * (r : Int) + (x.toNat : Int)).tmod (n : Int) = (((256 * r + x.toNat) % n : Nat) : Int) := by
        rw [Int.tmod_eq_emod_of_nonneg (by omega)]; simp
      have HH := Lib.hid (htk.symm ▸ hst)
      have hne : ((n : Int) == 0) = false := by rw [beq_eq_false_iff_ne]; omega
      clear hxi hcell htk hst hr hp
      go_wp2_with fail
      go_round
      case rel => exact ⟨i + 1, by omega, by go_num, by rw [← HH.out]; simp⟩
      case measure => first | (simp [intOf]; done) | (simp [intOf]; omega)
    · obtain rfl : i = xs.length := by omega
      rw [List.take_length]
      go_wp2_with fail
      go_ret
      exact ⟨rfl, rfl⟩

end Go.Proofs.Ytmheoenieaemmaa
