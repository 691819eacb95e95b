/-
  bigmod.Nat: IsZero, IsOne, IsOdd, Equal, cmpGeq.
-/
import Derived.Test.YtmheoenieaemmaaDoorNat
namespace Go.Proofs.YtmheoenieaemmaaDoor
open Go.RowKit

def bitN (b : Bool) : Nat := cond b 1 0
theorem bitN_lt (b : Bool) : bitN b < 18446744073709551616 := by cases b <;> decide
theorem bitN_le (b : Bool) : bitN b ≤ 1 := by cases b <;> decide
theorem bitN_and (a b : Bool) : bits .and .u64 (bitN a : Int) (bitN b : Int) = (bitN (a && b) : Int) := by cases a <;> cases b <;> decide
theorem bitN_or (a b : Bool) : bits .or .u64 (bitN a : Int) (bitN b : Int) = (bitN (a || b) : Int) := by cases a <;> cases b <;> decide

theorem ctEq_bit (x y : Nat) (hx : x < 18446744073709551616) (hy : y < 18446744073709551616) (w : World) :
    Calls Tryd.prog 113 #[.int .u64 x, .int .u64 y] w fun e w' => e = .returned (.int .u64 (bitN (decide (x = y)) : Int)) ∧ w = w' := by
  have h := ctEq_any x y hx hy w
  rw [show (if x = y then 1 else 0 : Nat) = bitN (decide (x = y)) by by_cases h : x = y <;> simp [h, bitN]] at h
  exact h
theorem not_bit (b : Bool) (w : World) :
    Calls Tryd.prog 108 #[.int .u64 (bitN b : Int)] w fun e w' => e = .returned (.int .u64 (bitN (!b) : Int)) ∧ w = w' := by
  have h := not_is (bitN b) (bitN_le b) w
  rw [show 1 - bitN b = bitN (!b) by cases b <;> rfl] at h
  exact h

theorem isZero_any (p b : Nat) (xs rest : List Nat) (w : World) (hx : NatAt w p b xs rest) (hn : xs.length + rest.length ≤ 1000000) :
    Calls Tryd.prog 86 #[.pointer (some ⟨p, 0, none⟩)] w fun e w' => e = .returned (.int .u64 (bitN (decide (val xs = 0)) : Int)) ∧ w = w' := by
  have c1 := hx.cell
  have HX := Lib.hid hx
  clear hx
  go_enter Tryd.func86, Tryd.ntmps86
  go_wp2_with fail
  go_loop [5, 6] (fun zv iv => ∃ (k : Nat), k ≤ xs.length ∧ zv = .int .u64 (bitN (decide (val (xs.take k) = 0)) : Int) ∧ iv = .int .i64 k) (fun _ i => xs.length - (intOf i).toNat)
  case atStart => exact ⟨0, Nat.zero_le _, rfl, rfl⟩
  case round =>
    obtain ⟨k, hk, rfl, rfl⟩ := hrel
    by_cases hlt : k < xs.length
    · have cx := HX.out.limb k hlt
      have hc := ctEq_bit xs[k] 0 (HX.out.2.2.1.get k hlt) (by omega) w
      have ha := bitN_and (decide (val (xs.take k) = 0)) (decide (xs[k] = 0))
      have hv : (decide (val (xs.take k) = 0) && decide (xs[k] = 0)) = decide (val (xs.take (k + 1)) = 0) := by
        rw [val_take_succ xs k hlt, Bool.eq_iff_iff, Bool.and_eq_true, decide_eq_true_iff, decide_eq_true_iff, decide_eq_true_iff]
        have := Pw_pos k
        constructor
        · rintro ⟨h1, h2⟩; rw [h1, h2]; omega
        · intro h
          refine ⟨by omega, ?_⟩
          rcases Nat.eq_zero_or_pos xs[k] with h0 | h0
          · exact h0
          · have := Nat.mul_pos this h0; omega
      rw [hv] at ha
      have HC := Lib.hid hc
      clear hc hv
      go_wp2_with fail
      refine HC.out.mono ?_
      rintro e w' ⟨rfl, rfl⟩
      go_wp2_with fail
      go_round
      case rel => exact ⟨k + 1, by omega, rfl, by go_num⟩
      case measure => simp [intOf]; omega
    · obtain rfl : k = xs.length := by omega
      rw [List.take_of_length_le (Nat.le_refl _)]
      go_wp2_with fail
      go_ret
      exact ⟨rfl, rfl⟩

theorem isOdd_any (p b : Nat) (x : Nat) (xs rest : List Nat) (w : World) (hx : NatAt w p b (x :: xs) rest) (_hn : (x :: xs).length + rest.length ≤ 1000000) :
    Calls Tryd.prog 98 #[.pointer (some ⟨p, 0, none⟩)] w fun e w' => e = .returned (.int .u64 ((x % 2 : Nat) : Int)) ∧ w = w' := by
  have c1 := hx.cell
  have cx := hx.limb 0 (by simp)
  have hlt : x < 18446744073709551616 := hx.2.2.1 x (List.mem_cons_self ..)
  have ha := bits_and_u64_nat x 1 hlt (by omega)
  rw [Nat.and_one_is_mod] at ha
  simp only [List.getElem_cons_zero] at cx
  have hl : (x :: xs).length = xs.length + 1 := rfl
  rw [hl] at c1
  clear hx hl
  go_enter Tryd.func98, Tryd.ntmps98
  go_wp2_with fail
  go_ret
  exact ⟨by rw [← ha]; rfl, rfl⟩

theorem isOne_any (p b : Nat) (x : Nat) (xs rest : List Nat) (w : World) (hx : NatAt w p b (x :: xs) rest) (hn : (x :: xs).length + rest.length ≤ 1000000) :
    Calls Tryd.prog 89 #[.pointer (some ⟨p, 0, none⟩)] w fun e w' => e = .returned (.int .u64 (bitN (decide (val (x :: xs) = 1)) : Int)) ∧ w = w' := by
  obtain ⟨ys, hys⟩ : ∃ ys, x :: xs = ys := ⟨_, rfl⟩
  have hl1 : 1 ≤ ys.length := by rw [← hys]; simp
  have hl0 : ¬ ys.length = 0 := by omega
  have c1 := hx.cell
  have cx := hx.limb 0 (by simp)
  simp only [List.getElem_cons_zero] at cx
  have hlt : x < 18446744073709551616 := hx.2.2.1 x (List.mem_cons_self ..)
  have hc := ctEq_bit x 1 hlt (by omega) w
  have hv1 : val (ys.take 1) = x := by rw [← hys]; simp [val]
  rw [← hv1] at hc
  rw [← hv1] at cx
  rw [hys] at hx c1 hn ⊢
  have HX := Lib.hid hx
  have HC := Lib.hid hc
  have HV1 := Lib.hid hv1
  clear hx hc hv1 hys hlt
  go_enter Tryd.func89, Tryd.ntmps89
  go_wp2_with fail
  refine HC.out.mono ?_
  rintro e w' ⟨rfl, rfl⟩
  clear HC cx
  go_wp2_with fail
  go_loop [5, 6] (fun zv iv => ∃ (k : Nat), 1 ≤ k ∧ k ≤ ys.length ∧ zv = .int .u64 (bitN (decide (val (ys.take k) = 1)) : Int) ∧ iv = .int .i64 k) (fun _ i => ys.length - (intOf i).toNat)
  case atStart => exact ⟨1, Nat.le_refl _, hl1, rfl, rfl⟩
  case round =>
    obtain ⟨k, hk1, hk, rfl, rfl⟩ := hrel
    by_cases hlt : k < ys.length
    · have cx := HX.out.limb k hlt
      have hc := ctEq_bit ys[k] 0 (HX.out.2.2.1.get k hlt) (by omega) w
      have ha := bitN_and (decide (val (ys.take k) = 1)) (decide (ys[k] = 0))
      have hv : (decide (val (ys.take k) = 1) && decide (ys[k] = 0)) = decide (val (ys.take (k + 1)) = 1) := by
        rw [val_take_succ ys k hlt, Bool.eq_iff_iff, Bool.and_eq_true, decide_eq_true_iff, decide_eq_true_iff, decide_eq_true_iff]
        have h2 : 2 ≤ Pw k := by have := Pw_le hk1; rw [Pw_one] at this; omega
        constructor
        · rintro ⟨h1, h2⟩; rw [h1, h2]; omega
        · intro h
          have : ys[k] = 0 := by
            rcases Nat.eq_zero_or_pos ys[k] with h0 | h0
            · exact h0
            · have := Nat.mul_le_mul h2 h0; omega
          rw [this] at h
          exact ⟨by omega, this⟩
      rw [hv] at ha
      have HC := Lib.hid hc
      clear hc hv
      go_wp2_with fail
      refine HC.out.mono ?_
      rintro e w' ⟨rfl, rfl⟩
      go_wp2_with fail
      go_round
      case rel => exact ⟨k + 1, by omega, by omega, rfl, by go_num⟩
      case measure => simp [intOf]; omega
    · obtain rfl : k = ys.length := by omega
      rw [List.take_of_length_le (Nat.le_refl _)]
      go_wp2_with fail
      go_ret
      exact ⟨rfl, rfl⟩

end Go.Proofs.YtmheoenieaemmaaDoor
