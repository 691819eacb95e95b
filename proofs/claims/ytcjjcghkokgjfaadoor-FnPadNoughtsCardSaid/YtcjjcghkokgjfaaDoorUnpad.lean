/-
  rsa15.Unpad and spec.Unpad: where the message of an encoding for encryption begins.
-/
import Derived.Test.YtcjjcghkokgjfaaDoorCt
namespace Go.Proofs.YtcjjcghkokgjfaaDoor
open Go.RowKit

/-- The place of the first nought from place 2 on; the length where there is none. -/
def zAt (xs : List UInt8) : Nat := 2 + (xs.drop 2).findIdx (· == 0)

theorem zAt_ge (xs : List UInt8) : 2 ≤ zAt xs := by unfold zAt; omega
theorem zAt_le (xs : List UInt8) (h : 2 ≤ xs.length) : zAt xs ≤ xs.length := by
  unfold zAt
  have := List.findIdx_le_length (p := (· == (0 : UInt8))) (xs := xs.drop 2)
  rw [List.length_drop] at this
  omega
theorem zAt_zero (xs : List UInt8) (h : zAt xs < xs.length) : xs[zAt xs] = 0 := by
  unfold zAt at h ⊢
  have hl : (xs.drop 2).findIdx (· == 0) < (xs.drop 2).length := by rw [List.length_drop]; omega
  have := List.findIdx_getElem (w := hl)
  simpa using this
theorem zAt_before (xs : List UInt8) (k : Nat) (h2 : 2 ≤ k) (h : k < zAt xs) (hk : k < xs.length) : xs[k] ≠ 0 := by
  unfold zAt at h
  have := List.not_of_lt_findIdx (p := (· == (0 : UInt8))) (xs := xs.drop 2) (i := k - 2) (by omega)
  have e : 2 + (k - 2) = k := by omega
  simp only [List.getElem_drop, e] at this
  simpa using this

theorem byte_two {x : UInt8} : (x.toNat : Int) = 2 ↔ x = 2 := by
  constructor
  · intro h
    apply UInt8.toNat_inj.1
    show x.toNat = 2
    omega
  · rintro rfl; rfl

/-- What an encoding for encryption is. -/
def isPad (xs : List UInt8) : Bool := decide (xs[0]? = some 0) && decide (xs[1]? = some 2) && decide (zAt xs < xs.length) && decide (10 ≤ zAt xs)

theorem flag_of (p : Prop) [Decidable p] : ∃ e : Int, (p ∧ e = 1) ∨ (¬ p ∧ e = 0) := by
  by_cases h : p
  · exact ⟨1, .inl ⟨h, rfl⟩⟩
  · exact ⟨0, .inr ⟨h, rfl⟩⟩

set_option maxHeartbeats 1600000 in
theorem unpad_any (w : World) (A : Option Addr) (c : Nat) (xs : List UInt8) (hx : BytesAt w A xs) (hl2 : 2 ≤ xs.length) (hl : xs.length ≤ 2147483647) :
    Calls Tryd.prog 20 #[.slice A xs.length c] w fun e w' =>
      e = .returned (.tuple #[.int .i64 (bif isPad xs then 1 else 0), .int .i64 (bif isPad xs then (zAt xs : Int) + 1 else 0)]) ∧ w = w' := by
  obtain ⟨b, off, rfl, _, hc⟩ := hx.at_ (k := 0) (by omega)
  obtain ⟨x0, hx0⟩ : ∃ x, x = xs[0] := ⟨_, rfl⟩
  obtain ⟨x1, hx1⟩ : ∃ x, x = xs[1] := ⟨_, rfl⟩
  have c0 : w.cell? ⟨b, off, none⟩ = some (.int .u8 (x0.toNat : Int)) := hc 0 x0 (by rw [hx0]; exact List.getElem?_eq_getElem _)
  have c1 : w.cell? ⟨b, off + 1, none⟩ = some (.int .u8 (x1.toNat : Int)) := hc 1 x1 (by rw [hx1]; exact List.getElem?_eq_getElem _)
  have HX0 := Lib.hid hx0
  have HX1 := Lib.hid hx1
  clear hx0 hx1
  have HC := Lib.hid hc
  clear hc
  have bl2 : (1 : Int) < (xs.length : Int) := by omega
  have bl1 : (0 : Int) < (xs.length : Int) := by omega
  obtain ⟨e0, h0⟩ := flag_of ((x0.toNat : Int) = 0)
  obtain ⟨e1, h1⟩ := flag_of ((x1.toNat : Int) = 2)
  have H0 := Lib.hid h0
  have H1 := Lib.hid h1
  clear h0 h1
  go_enter Tryd.func20, Tryd.ntmps20
  go_wp2_with fail
  refine (ctByteEq_is _ _ e0 _ H0.out).mono ?_
  rintro e w' ⟨rfl, rfl⟩
  go_wp2_with fail
  refine (ctByteEq_is _ _ e1 _ H1.out).mono ?_
  rintro e w' ⟨rfl, rfl⟩
  go_wp2_with fail
  go_loop [3, 6, 7] (fun x l i => ∃ k : Nat, 2 ≤ k ∧ k ≤ xs.length ∧ i = .int .i64 k ∧ l = .int .i64 (if zAt xs < k then 0 else 1) ∧ x = .int .i64 (if zAt xs < k then zAt xs else 0 : Nat)) (fun _ _ i => xs.length - (intOf i).toNat)
  case atStart => exact ⟨2, Nat.le_refl _, hl2, rfl, by rw [if_neg (by have := zAt_ge xs; omega)], by rw [if_neg (by have := zAt_ge xs; omega)]; rfl⟩
  case round =>
    obtain ⟨k, hk2, hk, rfl, rfl, rfl⟩ := hrel
    by_cases hlt : k < xs.length
    · obtain ⟨x, hx⟩ : ∃ x, x = xs[k] := ⟨_, rfl⟩
      have hcell : w.cell? ⟨b, off + k, none⟩ = some (.int .u8 (x.toNat : Int)) := HC.out k x (by rw [hx]; exact List.getElem?_eq_getElem _)
      have HX := Lib.hid hx
      clear hx
      rcases Nat.lt_trichotomy (zAt xs) k with hz | hz | hz
      · rw [if_pos hz, if_pos hz]
        by_cases hx0 : (x.toNat : Int) = 0
        · have HE := Lib.hid hx0
          clear hx0
          go_wp2_with fail
          refine (ctByteEq_is _ _ 1 _ (.inl ⟨HE.out, rfl⟩)).mono ?_
          rintro e w' ⟨rfl, rfl⟩
          go_wp2_with fail
          refine (ctSelect_is _ _ _ (zAt xs : Int) _ (.inl ⟨rfl, rfl⟩)).mono ?_
          rintro e w' ⟨rfl, rfl⟩
          go_wp2_with fail
          refine (ctSelect_is _ _ _ 0 _ (.inr ⟨by decide, rfl⟩)).mono ?_
          rintro e w' ⟨rfl, rfl⟩
          go_wp2_with fail
          go_round
          case rel => exact ⟨k + 1, by omega, by omega, by go_num, by rw [if_pos (by omega)], by rw [if_pos (by omega)]⟩
          case measure => simp [intOf]; omega
        · have HE := Lib.hid hx0
          clear hx0
          go_wp2_with fail
          refine (ctByteEq_is _ _ 0 _ (.inr ⟨HE.out, rfl⟩)).mono ?_
          rintro e w' ⟨rfl, rfl⟩
          go_wp2_with fail
          refine (ctSelect_is _ _ _ (zAt xs : Int) _ (.inl ⟨rfl, rfl⟩)).mono ?_
          rintro e w' ⟨rfl, rfl⟩
          go_wp2_with fail
          refine (ctSelect_is _ _ _ 0 _ (.inl ⟨rfl, rfl⟩)).mono ?_
          rintro e w' ⟨rfl, rfl⟩
          go_wp2_with fail
          go_round
          case rel => exact ⟨k + 1, by omega, by omega, by go_num, by rw [if_pos (by omega)], by rw [if_pos (by omega)]⟩
          case measure => simp [intOf]; omega
      · have hx0 : (x.toNat : Int) = 0 := by
          have h := zAt_zero xs (by omega)
          rw [byte_zero, HX.out]
          simpa [hz] using h
        have HE := Lib.hid hx0
        rw [if_neg (by omega), if_neg (by omega)]
        have HZ := Lib.hid hz
        clear hx0 hz
        go_wp2_with fail
        refine (ctByteEq_is _ _ 1 _ (.inl ⟨HE.out, rfl⟩)).mono ?_
        rintro e w' ⟨rfl, rfl⟩
        go_wp2_with fail
        refine (ctSelect_is _ _ _ (k : Int) _ (.inr ⟨by decide, rfl⟩)).mono ?_
        rintro e w' ⟨rfl, rfl⟩
        go_wp2_with fail
        refine (ctSelect_is _ _ _ 0 _ (.inr ⟨by decide, rfl⟩)).mono ?_
        rintro e w' ⟨rfl, rfl⟩
        go_wp2_with fail
        go_round
        case rel => exact ⟨k + 1, by omega, by omega, by go_num, by rw [if_pos (by have := HZ.out; omega)], by rw [if_pos (by have := HZ.out; omega), HZ.out]⟩
        case measure => simp [intOf]; omega
      · have hx0 : ¬ (x.toNat : Int) = 0 := by
          have h := zAt_before xs k hk2 hz hlt
          rw [byte_zero, HX.out]
          exact h
        have HE := Lib.hid hx0
        rw [if_neg (by omega), if_neg (by omega)]
        clear hx0
        go_wp2_with fail
        refine (ctByteEq_is _ _ 0 _ (.inr ⟨HE.out, rfl⟩)).mono ?_
        rintro e w' ⟨rfl, rfl⟩
        go_wp2_with fail
        refine (ctSelect_is _ _ _ 0 _ (.inl ⟨rfl, rfl⟩)).mono ?_
        rintro e w' ⟨rfl, rfl⟩
        go_wp2_with fail
        refine (ctSelect_is _ _ _ 1 _ (.inl ⟨rfl, rfl⟩)).mono ?_
        rintro e w' ⟨rfl, rfl⟩
        go_wp2_with fail
        go_round
        case rel => exact ⟨k + 1, by omega, by omega, by go_num, by rw [if_neg (by omega)], by rw [if_neg (by omega)]; rfl⟩
        case measure => simp [intOf]; omega
    · obtain rfl : k = xs.length := by omega
      have hzl := zAt_le xs hl2
      have hp0 : decide (xs[0]? = some 0) = decide (e0 = 1) := by
        rw [List.getElem?_eq_getElem (by omega)]
        rcases H0.out with ⟨h, rfl⟩ | ⟨h, rfl⟩ <;> rw [byte_zero, HX0.out] at h <;> simp [h]
      have hp1 : decide (xs[1]? = some 2) = decide (e1 = 1) := by
        rw [List.getElem?_eq_getElem (by omega)]
        rcases H1.out with ⟨h, rfl⟩ | ⟨h, rfl⟩ <;> rw [byte_two, HX1.out] at h <;> simp [h]
      have HP0 := Lib.hid hp0
      have HP1 := Lib.hid hp1
      clear hp0 hp1
      have he0 : e0 = 0 ∨ e0 = 1 := by rcases H0.out with ⟨_, h⟩ | ⟨_, h⟩ <;> simp [h]
      have he1 : e1 = 0 ∨ e1 = 1 := by rcases H1.out with ⟨_, h⟩ | ⟨_, h⟩ <;> simp [h]
      clear H0 H1
      rcases Nat.lt_or_ge (zAt xs) xs.length with hz | hz
      · rw [if_pos hz, if_pos hz]
        rcases Nat.lt_or_ge (zAt xs) 10 with ht | ht
        · have hv : isPad xs = false := by unfold isPad; rw [decide_eq_false (by omega : ¬ 10 ≤ zAt xs)]; simp
          have HV := Lib.hid hv
          clear hv HP0 HP1
          rcases he0 with rfl | rfl <;> rcases he1 with rfl | rfl
          all_goals
            go_wp2_with fail
            refine (ctLessOrEq_is _ _ 0 _ (.inr ⟨by omega, rfl⟩)).mono ?_
            rintro e w' ⟨rfl, rfl⟩
            go_wp2_with fail
            refine (ctSelect_is _ _ _ 0 _ (.inl ⟨rfl, rfl⟩)).mono ?_
            rintro e w' ⟨rfl, rfl⟩
            go_wp2_with fail
            go_ret2
            exact ⟨by rw [HV.out]; rfl, rfl⟩
        · have hv : isPad xs = (decide (e0 = 1) && decide (e1 = 1)) := by unfold isPad; rw [HP0.out, HP1.out, decide_eq_true hz, decide_eq_true ht]; simp
          have HV := Lib.hid hv
          clear hv HP0 HP1
          rcases he0 with rfl | rfl <;> rcases he1 with rfl | rfl
          case inr.inr =>
            go_wp2_with fail
            refine (ctLessOrEq_is _ _ 1 _ (.inl ⟨by omega, rfl⟩)).mono ?_
            rintro e w' ⟨rfl, rfl⟩
            go_wp2_with fail
            refine (ctSelect_is _ _ _ ((zAt xs : Int) + 1) _ (.inr ⟨by decide, rfl⟩)).mono ?_
            rintro e w' ⟨rfl, rfl⟩
            go_wp2_with fail
            go_ret2
            exact ⟨by rw [HV.out]; rfl, rfl⟩
          all_goals
            go_wp2_with fail
            refine (ctLessOrEq_is _ _ 1 _ (.inl ⟨by omega, rfl⟩)).mono ?_
            rintro e w' ⟨rfl, rfl⟩
            go_wp2_with fail
            refine (ctSelect_is _ _ _ 0 _ (.inl ⟨rfl, rfl⟩)).mono ?_
            rintro e w' ⟨rfl, rfl⟩
            go_wp2_with fail
            go_ret2
            exact ⟨by rw [HV.out]; rfl, rfl⟩
      · have hv : isPad xs = false := by unfold isPad; rw [decide_eq_false (by omega : ¬ zAt xs < xs.length)]; simp
        rw [if_neg (by omega), if_neg (by omega)]
        have HV := Lib.hid hv
        clear hv HP0 HP1
        rcases he0 with rfl | rfl <;> rcases he1 with rfl | rfl
        all_goals
          go_wp2_with fail
          refine (ctLessOrEq_is _ _ 0 _ (.inr ⟨by decide, rfl⟩)).mono ?_
          rintro e w' ⟨rfl, rfl⟩
          go_wp2_with fail
          refine (ctSelect_is _ _ _ 0 _ (.inl ⟨rfl, rfl⟩)).mono ?_
          rintro e w' ⟨rfl, rfl⟩
          go_wp2_with fail
          go_ret2
          exact ⟨by rw [HV.out]; rfl, rfl⟩

end Go.Proofs.YtcjjcghkokgjfaaDoor
