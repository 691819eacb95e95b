/-
  The walks of FnEncode15Bare and FnEncode15.
-/
import Derived.Test.YtmheoenieaemmaaDoorImplEnc
import Derived.Test.YtmheoenieaemmaaDoorSpecPrefix
import Derived.Test.YtmheoenieaemmaaDoorLong
import Derived.Test.YtmheoenieaemmaaDoorBeyond
namespace Go.Proofs.YtmheoenieaemmaaDoor
open Go.RowKit

theorem w64' (n : Int) (h : -9223372036854775808 ≤ n ∧ n ≤ 9223372036854775807) : wrap64 n = n := by unfold wrap64; omega

theorem fnEncode15Bare_walk (a : Int) (D : Option Addr) (cap : Nat) (dig : List UInt8) (w : World) (ha0 : 0 ≤ a) (ha1 : a ≤ 65535) (hd : BytesAt w D dig) (_hc : dig.length ≤ cap) (_hm : cap ≤ maxLen) (ea : Addr) (hg : TooLong w ea) :
    Calls Tryd.prog 4 #[.int .u16 a, .slice D dig.length cap] w fun e w' => e = .returned (.bool true) ∧ Kept NoBlk w w' := by
  unfold maxLen at _hm
  by_cases h1 : 2147483647 < dig.length
  · go_enter Tryd.func4, Tryd.ntmps4
    go_wp2_with fail
    go_ret
    exact ⟨rfl, Kept.refl _ _⟩
  obtain ⟨k, rfl⟩ := Int.eq_ofNat_of_zero_le ha0
  obtain ⟨n, hn⟩ : ∃ n, 1 + k % 1000 = n := ⟨_, rfl⟩
  have hn1 : 1 ≤ n ∧ n ≤ 1000 := by omega
  have wa : wrap64 (k : Int) = (k : Int) := w64' _ (by omega)
  have wt : (k : Int).tmod 1000 = (k : Int) % 1000 := Int.tmod_eq_emod_of_nonneg (by omega)
  have wn : 1 + (k : Int) % 1000 = (n : Int) := by omega
  have HD := Lib.hid hd
  have HG := Lib.hid hg
  have hmod := modulus_any n w (by omega)
  have HM := Lib.hid hmod
  clear hd hg hmod hn
  go_enter Tryd.func4, Tryd.ntmps4
  go_wp2_with fail
  refine HM.out.mono ?_
  rintro e w1 ⟨rfl, hb1, k1⟩
  have hd1 := HD.out.still k1
  have hlong := long_any w1.heap.size [(D, dig.length, cap)] (w1.alloc (.cells #[.slice D dig.length cap] 23))
    (at_new w1 23 ([(D, dig.length, cap)].map Piece.val)) (by simp) (by intro p hp; simp at hp; subst hp; simp; omega)
  rw [show lensOf [(D, dig.length, cap)] = dig.length by simp [lensOf]] at hlong
  obtain ⟨W2, hW2⟩ : ∃ W2, w1.alloc (.cells #[.slice D dig.length cap] 23) = W2 := ⟨_, rfl⟩
  rw [hW2] at hlong
  have k12 : Kept NoBlk w1 W2 := by rw [← hW2]; exact (Kept.refl _ _).alloc _
  have hd2 := hd1.still k12
  have hb2 := hb1.kept k12 (fun e => e)
  have k2 := k1.none k12
  have hrow : BytesAt W2 (some ⟨w.heap.size, 0, none⟩) (row255 n) := hb2.at_ _ (fun j u hu => by rw [List.getElem?_toArray]; exact hu)
  have HROW := Lib.hid hrow
  have HD2 := Lib.hid hd2
  have HK2 := Lib.hid k2
  clear hd1 hb1 k1 k12 hd2 hb2 k2 hrow HM
  by_cases h3 : 65536 < dig.length
  · rw [decide_eq_true (by simpa using h3)] at hlong
    have HL := Lib.hid hlong
    clear hlong
    go_wp2_with fail
    refine HL.out.mono ?_
    rintro e w' ⟨rfl, rfl⟩
    go_wp2_with fail
    go_ret
    exact ⟨rfl, HK2.out⟩
  · rw [decide_eq_false (by simpa using h3)] at hlong
    have HL := Lib.hid hlong
    have himp := implEnc_any ⟨#[]⟩ 8 (.inr ⟨rfl, rfl⟩) n hn1.1 hn1.2 (some ⟨w.heap.size, 0, none⟩) D n cap dig ea W2 HROW.out HD2.out (by omega) (HG.out.still HK2.out) (fun h => by omega)
    rw [if_neg (by omega)] at himp
    have HI := Lib.hid himp
    clear hlong himp
    go_wp2_with fail
    refine HL.out.mono ?_
    rintro e w' ⟨rfl, rfl⟩
    go_wp2_with fail
    refine HI.out.mono ?_
    intro e w3 h
    rcases h with ⟨a, rfl, k3⟩ | ⟨a, A3, c3, rfl, hat3, k3⟩
    · have hsp := specEnc_any n none D 0 cap [] dig w3 (BytesAt.nil _ _) (HD2.out.still k3) (by omega) (by simp) (by omega)
      have HSP := Lib.hid hsp
      have HK3 := Lib.hid (HK2.out.none k3)
      have HA := Lib.hid a
      clear hsp k3 a HI
      go_wp2_with fail
      refine HSP.out.mono ?_
      intro e w4 h
      rcases h with ⟨_, rfl, k4⟩ | ⟨b, _⟩
      · have hsame := same_any w4 none none 0 0 [] [] (BytesAt.nil _ _) (BytesAt.nil _ _)
        have HSM := Lib.hid hsame
        have HK4 := Lib.hid (HK3.out.none k4)
        clear hsame k4
        go_wp2_with fail
        refine HSM.out.mono ?_
        rintro e w' ⟨rfl, rfl⟩
        go_wp2_with fail
        go_ret
        exact ⟨rfl, HK4.out⟩
      · exact absurd HA.out (by omega)
    · have hsp := specEnc_any n none D 0 cap [] dig w3 (BytesAt.nil _ _) (HD2.out.still k3) (by omega) (by simp) (by omega)
      obtain ⟨em, hem⟩ : ∃ em, emOf (n - ([] : List UInt8).length - dig.length - 3) [] dig = em := ⟨_, rfl⟩
      rw [hem] at hat3 ⊢
      have HSP := Lib.hid hsp
      have HK3 := Lib.hid (HK2.out.none k3)
      have HA := Lib.hid a
      have HAT := Lib.hid hat3
      have HEM := Lib.hid hem
      clear hsp k3 a HI hat3 hem
      go_wp2_with fail
      refine HSP.out.mono ?_
      intro e w4 h
      rcases h with ⟨b, _⟩ | ⟨_, A4, c4, rfl, hat4, k4⟩
      · exact absurd b (by have := HA.out; omega)
      · rw [HEM.out] at hat4 ⊢
        have hsame := same_any w4 A3 A4 c3 c4 em em (HAT.out.still k4) hat4
        rw [beq_self_eq_true] at hsame
        have HSM := Lib.hid hsame
        have HK4 := Lib.hid (HK3.out.none k4)
        clear hsame k4 hat4
        go_wp2_with fail
        refine HSM.out.mono ?_
        rintro e w' ⟨rfl, rfl⟩
        go_wp2_with fail
        go_ret
        exact ⟨rfl, HK4.out⟩

end Go.Proofs.YtmheoenieaemmaaDoor
