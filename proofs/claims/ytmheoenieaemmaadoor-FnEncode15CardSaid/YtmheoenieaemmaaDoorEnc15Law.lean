/-
  The walk of FnEncode15.
-/
import Derived.Test.YtmheoenieaemmaaDoorEncLaw
import Derived.Test.YtmheoenieaemmaaDoorImplMis
namespace Go.Proofs.YtmheoenieaemmaaDoor
open Go.RowKit

theorem hSize_le (i : Nat) : hSize i ≤ 1000 := by
  unfold hSize
  split <;> omega

set_option maxHeartbeats 1000000 in
theorem fnEncode15_walk (a a1 : Int) (D : Option Addr) (cap : Nat) (dig : List UInt8) (w : World) (ha0 : 0 ≤ a) (ha1 : a ≤ 65535) (hb0 : 0 ≤ a1) (hb1 : a1 ≤ 255) (hd : BytesAt w D dig) (_hc : dig.length ≤ cap) (_hm : cap ≤ maxLen) (ea : Addr) (hg : TooLong w ea) :
    Calls Tryd.prog 3 #[.int .u16 a, .int .u8 a1, .slice D dig.length cap] w fun e w' => e = .returned (.bool true) ∧ Kept NoBlk w w' := by
  unfold maxLen at _hm
  by_cases h1 : 2147483647 < dig.length
  · go_enter Tryd.func3, Tryd.ntmps3
    go_wp2_with fail
    go_ret
    exact ⟨rfl, Kept.refl _ _⟩
  have hbey := beyond_any w.heap.size [dig.length] (w.alloc (.cells #[.int .i64 dig.length] 3))
    (at_new w 3 ([dig.length].map fun (n : Nat) => Value.int .i64 (n : Int))) (by simp)
  by_cases h2 : 1048576 < dig.length
  · rw [show ([dig.length].any fun n => decide (1048576 < n)) = true by simpa using h2] at hbey
    have HB := Lib.hid hbey
    clear hbey
    go_enter Tryd.func3, Tryd.ntmps3
    go_wp2_with fail
    refine HB.out.mono ?_
    rintro e w' ⟨rfl, rfl⟩
    go_wp2_with fail
    go_ret
    exact ⟨rfl, (Kept.refl _ _).alloc _⟩
  rw [show ([dig.length].any fun n => decide (1048576 < n)) = false by simp; omega] at hbey
  have HB := Lib.hid hbey
  clear hbey
  obtain ⟨m, rfl⟩ := Int.eq_ofNat_of_zero_le hb0
  obtain ⟨k, rfl⟩ := Int.eq_ofNat_of_zero_le ha0
  obtain ⟨n, hn⟩ : ∃ n, 1 + k % 1000 = n := ⟨_, rfl⟩
  have hn1 : 1 ≤ n ∧ n ≤ 1000 := by omega
  have wa : wrap64 (k : Int) = (k : Int) := w64' _ (by omega)
  have wt : (k : Int).tmod 1000 = (k : Int) % 1000 := Int.tmod_eq_emod_of_nonneg (by omega)
  have wn : 1 + (k : Int) % 1000 = (n : Int) := by omega
  have wn2 : wrap64 (n : Int) = (n : Int) := w64' _ (by omega)
  have HMD := Lib.hid (fun w => modulus_any n w (by omega))
  clear hn
  have HD := Lib.hid hd
  have HG := Lib.hid hg
  clear hd hg
  go_enter Tryd.func3, Tryd.ntmps3
  go_wp2_with fail
  refine HB.out.mono ?_
  rintro e w' ⟨rfl, rfl⟩
  clear HB
  go_wp2_with fail
  refine (names_any _).mono ?_
  rintro e w1 ⟨g, rfl, hc, hk⟩
  have HK1 := Lib.hid (((Kept.refl NoBlk w).alloc _).none hk)
  obtain ⟨i, hin⟩ : ∃ i, i = m % 8 := ⟨_, rfl⟩
  have hi : i < 8 := by omega
  have hcell : w1.cell? ⟨g, m % 8, none⟩ = some (.string (hName i)) := by rw [← hin]; exact hc i hi
  have HIN := Lib.hid hin
  clear hc hk hin
  go_wp2_with fail
  refine (specPrefix_name i hi w1).mono ?_
  rintro e w2 ⟨A2, c2, rfl, hat2, hpc2, hpm2, hk⟩
  have HK2 := Lib.hid (HK1.out.none hk)
  have HA2 := Lib.hid hat2
  obtain ⟨pre, hpre⟩ : ∃ pre, hPfx i = pre := ⟨_, rfl⟩
  obtain ⟨z, hz⟩ : ∃ z, hSize i = z := ⟨_, rfl⟩
  rw [hpre] at HA2 hpc2
  have hpl : pre.length ≤ 1000 := by
    rw [← hpre]
    have h : i = 0 ∨ i = 1 ∨ i = 2 ∨ i = 3 ∨ i = 4 ∨ i = 5 ∨ i = 6 ∨ i = 7 := by omega
    rcases h with rfl | rfl | rfl | rfl | rfl | rfl | rfl | rfl <;> simp [hPfx]
  have hzl : z ≤ 1000 := by rw [← hz]; exact hSize_le i
  rw [hz, hpre]
  have HPRE := Lib.hid hpre
  have HZ := Lib.hid hz
  have HM := Lib.hid (HMD.out w2)
  clear hk hat2 hpre hz hcell
  go_wp2_with fail
  refine HM.out.mono ?_
  rintro e w3 ⟨rfl, hb1, k3⟩
  have hlong := long_any w3.heap.size [(D, dig.length, cap)] (w3.alloc (.cells #[.slice D dig.length cap] 23))
    (at_new w3 23 ([(D, dig.length, cap)].map Piece.val)) (by simp) (by intro p hp; simp at hp; subst hp; simp; omega)
  rw [show lensOf [(D, dig.length, cap)] = dig.length by simp [lensOf]] at hlong
  obtain ⟨W4, hW4⟩ : ∃ W4, w3.alloc (.cells #[.slice D dig.length cap] 23) = W4 := ⟨_, rfl⟩
  rw [hW4] at hlong
  have k34 : Kept NoBlk w3 W4 := by rw [← hW4]; exact (Kept.refl _ _).alloc _
  have k04 := (HK2.out.none k3).none k34
  have hrow : BytesAt W4 (some ⟨w2.heap.size, 0, none⟩) (row255 n) := (hb1.kept k34 (fun e => e)).at_ _ (fun j u hu => by rw [List.getElem?_toArray]; exact hu)
  have HROW := Lib.hid hrow
  have HD4 := Lib.hid (HD.out.still k04)
  have HA4 : Hid (BytesAt W4 A2 pre) := Lib.hid ((HA2.out.still k3).still k34)
  have HK4 := Lib.hid k04
  clear hb1 k3 k34 k04 hrow HM
  by_cases h3 : 65536 < dig.length
  · rw [decide_eq_true (by simpa using h3)] at hlong
    have HL := Lib.hid hlong
    clear hlong
    go_wp2_with fail
    refine HL.out.mono ?_
    rintro e w' ⟨rfl, rfl⟩
    go_wp2_with fail
    go_ret
    exact ⟨rfl, HK4.out⟩
  rw [decide_eq_false (by simpa using h3)] at hlong
  have HL := Lib.hid hlong
  clear hlong
  by_cases hsz : dig.length = z
  · have himp := implEnc_any (hName i) i (.inl ⟨hi, rfl⟩) n hn1.1 hn1.2 (some ⟨w2.heap.size, 0, none⟩) D n cap dig ea W4 HROW.out HD4.out (by omega) (HG.out.still HK4.out) (fun h => by rw [HZ.out]; exact hsz)
    rw [if_pos hi, HPRE.out] at himp
    have HI := Lib.hid himp
    have hne : ((dig.length : Int) != (z : Int)) = false := by rw [bne_eq_false_iff_eq]; omega
    clear himp hsz
    go_wp2_with fail
    refine HL.out.mono ?_
    rintro e w' ⟨rfl, rfl⟩
    go_wp2_with fail
    refine HI.out.mono ?_
    intro e w5 h
    rcases h with ⟨b, rfl, k5⟩ | ⟨b, A5, c5, rfl, hat5, k5⟩
    · have HSP := Lib.hid (specEnc_any n A2 D c2 cap pre dig w5 (HA4.out.still k5) (HD4.out.still k5) (by omega) (by omega) (by omega))
      have HK5 := Lib.hid (HK4.out.none k5)
      have HBB := Lib.hid b
      clear k5 b HI
      go_wp2_with fail
      refine HSP.out.mono ?_
      intro e w6 h
      rcases h with ⟨_, rfl, k6⟩ | ⟨b, _⟩
      · have HSM := Lib.hid (same_any w6 none none 0 0 [] [] (BytesAt.nil _ _) (BytesAt.nil _ _))
        have HK6 := Lib.hid (HK5.out.none k6)
        clear k6
        go_wp2_with fail
        refine HSM.out.mono ?_
        rintro e w' ⟨rfl, rfl⟩
        go_wp2_with fail
        go_ret
        exact ⟨rfl, HK6.out⟩
      · exact absurd HBB.out (by omega)
    · have HSP := Lib.hid (specEnc_any n A2 D c2 cap pre dig w5 (HA4.out.still k5) (HD4.out.still k5) (by omega) (by omega) (by omega))
      obtain ⟨em, hem⟩ : ∃ em, emOf (n - pre.length - dig.length - 3) pre dig = em := ⟨_, rfl⟩
      rw [hem] at hat5 ⊢
      have HK5 := Lib.hid (HK4.out.none k5)
      have HBB := Lib.hid b
      have HAT := Lib.hid hat5
      have HEM := Lib.hid hem
      clear k5 b HI hat5 hem
      go_wp2_with fail
      refine HSP.out.mono ?_
      intro e w6 h
      rcases h with ⟨b, _⟩ | ⟨_, A6, c6, rfl, hat6, k6⟩
      · exact absurd b (by have := HBB.out; omega)
      · rw [HEM.out] at hat6 ⊢
        have hsame := same_any w6 A5 A6 c5 c6 em em (HAT.out.still k6) hat6
        rw [beq_self_eq_true] at hsame
        have HSM := Lib.hid hsame
        have HK6 := Lib.hid (HK5.out.none k6)
        clear hsame k6 hat6
        go_wp2_with fail
        refine HSM.out.mono ?_
        rintro e w' ⟨rfl, rfl⟩
        go_wp2_with fail
        go_ret
        exact ⟨rfl, HK6.out⟩
  · have HI := Lib.hid (implEnc_mis i hi n hn1.1 hn1.2 (some ⟨w2.heap.size, 0, none⟩) D n cap dig W4 HROW.out HD4.out (by omega) (by rw [HZ.out]; exact hsz))
    have hne : ((dig.length : Int) != (z : Int)) = true := by rw [bne_iff_ne]; omega
    clear hsz
    go_wp2_with fail
    refine HL.out.mono ?_
    rintro e w' ⟨rfl, rfl⟩
    go_wp2_with fail
    refine HI.out.mono ?_
    rintro e w5 ⟨rfl, k5⟩
    have HSP := Lib.hid (specEnc_any n A2 D c2 cap pre dig w5 (HA4.out.still k5) (HD4.out.still k5) (by omega) (by omega) (by omega))
    have HK5 := Lib.hid (HK4.out.none k5)
    clear k5 HI
    go_wp2_with fail
    refine HSP.out.mono ?_
    intro e w6 h
    rcases h with ⟨_, rfl, k6⟩ | ⟨_, A6, c6, rfl, hat6, k6⟩
    all_goals
      have HK6 := Lib.hid (HK5.out.none k6)
      clear k6
      go_wp2_with fail
      go_ret
      exact ⟨rfl, HK6.out⟩

end Go.Proofs.YtmheoenieaemmaaDoor
