/-
  spec.Unpad: where the message of an encoding for encryption begins; false where it is none.
-/
import Derived.Test.YtcjjcghkokgjfaaUnpad
import Derived.BigQuiet
import Derived.Deep.QuietTactic
namespace Go.Proofs.Ytcjjcghkokgjfaa
open Go.RowKit

set_option maxHeartbeats 1600000 in
theorem specUnpad_any (w : World) (A : Option Addr) (c : Nat) (xs : List UInt8) (hx : BytesAt w A xs) (hl2 : 2 ≤ xs.length) (hl : xs.length ≤ 2147483647) :
    Calls Try.prog 10 #[.slice A xs.length c] w fun e w' =>
      e = .returned (.tuple #[.int .i64 ((zAt xs : Int) + 1), .bool (isPad xs)]) ∧ w = w' := by
  obtain ⟨b, off, rfl, _, hc⟩ := hx.at_ (k := 0) (by omega)
  obtain ⟨x0, hx0⟩ : ∃ x, x = xs[0] := ⟨_, rfl⟩
  obtain ⟨x1, hx1⟩ : ∃ x, x = xs[1] := ⟨_, rfl⟩
  have c0 : w.cell? ⟨b, off, none⟩ = some (.int .u8 (x0.toNat : Int)) := hc 0 x0 (by rw [hx0]; exact List.getElem?_eq_getElem _)
  have c1 : w.cell? ⟨b, off + 1, none⟩ = some (.int .u8 (x1.toNat : Int)) := hc 1 x1 (by rw [hx1]; exact List.getElem?_eq_getElem _)
  have p0 : decide (xs[0]? = some 0) = ((x0.toNat : Int) == 0) := by
    rw [List.getElem?_eq_getElem (by omega), ← hx0, Bool.eq_iff_iff, decide_eq_true_iff, beq_iff_eq, byte_zero]; simp
  have p1 : decide (xs[1]? = some 2) = ((x1.toNat : Int) == 2) := by
    rw [List.getElem?_eq_getElem (by omega), ← hx1, Bool.eq_iff_iff, decide_eq_true_iff, beq_iff_eq, byte_two]; simp
  have P0 := Lib.hid p0
  have P1 := Lib.hid p1
  clear hx0 hx1 p0 p1
  have HC := Lib.hid hc
  clear hc
  have bl2 : (1 : Int) < (xs.length : Int) := by omega
  have bl1 : (0 : Int) < (xs.length : Int) := by omega
  go_enter Try.func10, Try.ntmps10
  go_wp2_with fail
  go_loop [4] (fun i => ∃ k : Nat, 2 ≤ k ∧ k ≤ xs.length ∧ k ≤ zAt xs ∧ i = .int .i64 k) (fun i => xs.length - (intOf i).toNat)
  case atStart => exact ⟨2, Nat.le_refl _, hl2, zAt_ge xs, rfl⟩
  case round =>
    obtain ⟨k, hk2, hk, hkz, rfl⟩ := hrel
    by_cases hlt : k < xs.length
    · obtain ⟨x, hx⟩ : ∃ x, x = xs[k] := ⟨_, rfl⟩
      have hcell : w.cell? ⟨b, off + k, none⟩ = some (.int .u8 (x.toNat : Int)) := HC.out k x (by rw [hx]; exact List.getElem?_eq_getElem _)
      rcases Nat.lt_or_ge k (zAt xs) with hz | hz
      · have hx0 : ((x.toNat : Int) != 0) = true := by
          have h := zAt_before xs k hk2 hz hlt
          rw [bne_iff_ne, ne_eq, byte_zero, hx]
          exact h
        clear hx
        go_wp2_with fail
        go_round
        case rel => exact ⟨k + 1, by omega, by omega, by omega, by go_num⟩
        case measure => simp [intOf]; omega
      · have hx0 : ((x.toNat : Int) != 0) = false := by
          have h := zAt_zero xs (by omega)
          have e : zAt xs = k := by omega
          rw [bne_eq_false_iff_eq, byte_zero, hx]
          simpa [e] using h
        obtain rfl : k = zAt xs := by omega
        clear hx
        have hp : isPad xs = (((x0.toNat : Int) == 0) && ((x1.toNat : Int) == 2) && decide (10 ≤ zAt xs)) := by
          unfold isPad; rw [P0.out, P1.out, decide_eq_true hlt]; simp
        have HP := Lib.hid hp
        clear hp hz
        rcases Bool.eq_false_or_eq_true ((x0.toNat : Int) == 0) with h0 | h0 <;> rcases Bool.eq_false_or_eq_true ((x1.toNat : Int) == 2) with h1 | h1 <;> rcases Nat.lt_or_ge (zAt xs) 10 with ht | ht <;> rcases Nat.lt_or_ge xs.length 11 with h11 | h11
        all_goals
          first
          | (exfalso; omega)
          | (have hv := HP.out
             rw [h0, h1] at hv
             first | rw [decide_eq_true ht] at hv | rw [decide_eq_false (by omega)] at hv
             have HV := Lib.hid hv
             clear hv HP
             go_wp2_with fail
             go_ret2
             exact ⟨by rw [HV.out]; rfl, rfl⟩)
    · obtain rfl : k = xs.length := by omega
      have hp : isPad xs = false := by
        unfold isPad; rw [decide_eq_false (by omega : ¬ zAt xs < xs.length)]; simp
      have HP := Lib.hid hp
      have hzl := zAt_le xs hl2
      have hze : zAt xs = xs.length := by omega
      have HZ := Lib.hid hze
      clear hp hze
      rcases Bool.eq_false_or_eq_true ((x0.toNat : Int) == 0) with h0 | h0 <;> rcases Bool.eq_false_or_eq_true ((x1.toNat : Int) == 2) with h1 | h1 <;> rcases Nat.lt_or_ge xs.length 10 with ht | ht <;> rcases Nat.lt_or_ge xs.length 11 with h11 | h11
      all_goals
        first
        | (exfalso; omega)
        | (go_wp2_with fail
           go_ret2
           exact ⟨by rw [HP.out, HZ.out]; rfl, rfl⟩)

end Go.Proofs.Ytcjjcghkokgjfaa
