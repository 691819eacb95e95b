/-
  The small choices of the padding of version 1.5: ctByteEq, ctSelect, ctLessOrEq.
-/
import Derived.Test.YtcjjcghkokgjfaaDoorBytes
namespace Go.Proofs.YtcjjcghkokgjfaaDoor
open Go.RowKit

theorem ctByteEq_any (x y : Int) (w : World) :
    Calls Tryd.prog 22 #[.int .u8 x, .int .u8 y] w fun e w' => e = .returned (.int .i64 (if x = y then 1 else 0)) ∧ w = w' := by
  by_cases h : x = y
  · subst h
    go_enter Tryd.func22, Tryd.ntmps22
    go_wp2
    go_ret
    exact ⟨by simp, rfl⟩
  · have hb : (x == y) = false := beq_eq_false_iff_ne.2 h
    go_enter Tryd.func22, Tryd.ntmps22
    go_wp2
    go_ret
    exact ⟨by simp, rfl⟩

theorem ctSelect_yes (v x y : Int) (w : World) (h : v ≠ 0) :
    Calls Tryd.prog 23 #[.int .i64 v, .int .i64 x, .int .i64 y] w fun e w' => e = .returned (.int .i64 x) ∧ w = w' := by
  have hb : (v != 0) = true := bne_iff_ne.2 h
  go_enter Tryd.func23, Tryd.ntmps23
  go_wp2
  go_ret
  exact ⟨rfl, rfl⟩

theorem ctSelect_no (x y : Int) (w : World) :
    Calls Tryd.prog 23 #[.int .i64 0, .int .i64 x, .int .i64 y] w fun e w' => e = .returned (.int .i64 y) ∧ w = w' := by
  go_enter Tryd.func23, Tryd.ntmps23
  go_wp2
  go_ret
  exact ⟨rfl, rfl⟩

theorem ctSelect_any (v x y : Int) (w : World) :
    Calls Tryd.prog 23 #[.int .i64 v, .int .i64 x, .int .i64 y] w fun e w' => e = .returned (.int .i64 (if v = 0 then y else x)) ∧ w = w' := by
  by_cases h : v = 0
  · subst h
    exact (ctSelect_no x y w).mono fun e w' ⟨h1, h2⟩ => ⟨by rw [if_pos rfl]; exact h1, h2⟩
  · exact (ctSelect_yes v x y w h).mono fun e w' ⟨h1, h2⟩ => ⟨by rw [if_neg h]; exact h1, h2⟩

theorem ctLessOrEq_any (x y : Int) (w : World) :
    Calls Tryd.prog 24 #[.int .i64 x, .int .i64 y] w fun e w' => e = .returned (.int .i64 (if x ≤ y then 1 else 0)) ∧ w = w' := by
  by_cases h : x ≤ y
  · go_enter Tryd.func24, Tryd.ntmps24
    go_wp2
    go_ret
    exact ⟨by simp, rfl⟩
  · go_enter Tryd.func24, Tryd.ntmps24
    go_wp2
    go_ret
    exact ⟨by simp, rfl⟩

theorem ctByteEq_is (x y r : Int) (w : World) (h : (x = y ∧ r = 1) ∨ (x ≠ y ∧ r = 0)) :
    Calls Tryd.prog 22 #[.int .u8 x, .int .u8 y] w fun e w' => e = .returned (.int .i64 r) ∧ w = w' := by
  rcases h with ⟨h, rfl⟩ | ⟨h, rfl⟩
  · exact (ctByteEq_any x y w).mono fun e w' ⟨h1, h2⟩ => ⟨by rw [if_pos h] at h1; exact h1, h2⟩
  · exact (ctByteEq_any x y w).mono fun e w' ⟨h1, h2⟩ => ⟨by rw [if_neg h] at h1; exact h1, h2⟩
theorem ctSelect_is (v x y r : Int) (w : World) (h : (v = 0 ∧ r = y) ∨ (v ≠ 0 ∧ r = x)) :
    Calls Tryd.prog 23 #[.int .i64 v, .int .i64 x, .int .i64 y] w fun e w' => e = .returned (.int .i64 r) ∧ w = w' := by
  rcases h with ⟨h, rfl⟩ | ⟨h, rfl⟩
  · exact (ctSelect_any v x r w).mono fun e w' ⟨h1, h2⟩ => ⟨by rw [if_pos h] at h1; exact h1, h2⟩
  · exact (ctSelect_any v r y w).mono fun e w' ⟨h1, h2⟩ => ⟨by rw [if_neg h] at h1; exact h1, h2⟩
theorem ctLessOrEq_is (x y r : Int) (w : World) (h : (x ≤ y ∧ r = 1) ∨ (y < x ∧ r = 0)) :
    Calls Tryd.prog 24 #[.int .i64 x, .int .i64 y] w fun e w' => e = .returned (.int .i64 r) ∧ w = w' := by
  rcases h with ⟨h, rfl⟩ | ⟨h, rfl⟩
  · exact (ctLessOrEq_any x y w).mono fun e w' ⟨h1, h2⟩ => ⟨by rw [if_pos h] at h1; exact h1, h2⟩
  · exact (ctLessOrEq_any x y w).mono fun e w' ⟨h1, h2⟩ => ⟨by rw [if_neg (by omega)] at h1; exact h1, h2⟩

end Go.Proofs.YtcjjcghkokgjfaaDoor
