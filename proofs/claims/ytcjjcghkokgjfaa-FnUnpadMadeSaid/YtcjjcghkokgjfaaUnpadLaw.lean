/-
  impl.Unpad, and the walk of FnUnpad.
-/
import Derived.Test.YtcjjcghkokgjfaaSpecUnpad
import Derived.Test.YtcjjcghkokgjfaaLong
namespace Go.Proofs.Ytcjjcghkokgjfaa
open Go.RowKit

theorem implUnpad_any (w : World) (A : Option Addr) (c : Nat) (xs : List UInt8) (hx : BytesAt w A xs) (hl2 : 2 ≤ xs.length) (hl : xs.length ≤ 2147483647) :
    Calls Try.prog 9 #[.slice A xs.length c] w fun e w' =>
      e = .returned (.tuple #[.bool (isPad xs), .int .i64 (bif isPad xs then (zAt xs : Int) + 1 else 0)]) ∧ Kept NoBlk w w' := by
  go_enter Try.func9, Try.ntmps9
  go_wp2_with fail
  refine (copied_any w A c xs hx (by omega)).mono ?_
  rintro e w1 ⟨v, rfl, hown, hk⟩
  obtain ⟨A1, c1, rfl, _, _, hat, _⟩ := own_form hown
  have HK := Lib.hid hk
  clear hk hown
  go_wp2_with fail
  refine (unpad_any w1 A1 c1 xs hat hl2 hl).mono ?_
  rintro e w' ⟨rfl, rfl⟩
  rcases Bool.eq_false_or_eq_true (isPad xs) with hp | hp <;> rw [hp]
  all_goals
    have HP := Lib.hid hp
    clear hp
    go_wp2_with fail
    go_ret2
    exact ⟨by rw [HP.out]; rfl, HK.out⟩

theorem lensOf_one (p : Piece) : lensOf [p] = p.2.1 := by simp [lensOf]

theorem fnUnpad_walk (A : Option Addr) (cap : Nat) (xs : List UInt8) (w : World) (hx : BytesAt w A xs) (_hc : xs.length ≤ cap) (_hm : cap ≤ maxLen) :
    Calls Try.prog 4 #[.slice A xs.length cap] w fun e w' => e = .returned (.bool true) ∧ Kept NoBlk w w' := by
  unfold maxLen at _hm
  by_cases h1 : 2147483647 < xs.length
  · go_enter Try.func4, Try.ntmps4
    go_wp2_with fail
    go_ret
    exact ⟨rfl, Kept.refl _ _⟩
  by_cases h2 : xs.length < 2
  · go_enter Try.func4, Try.ntmps4
    go_wp2_with fail
    go_ret
    exact ⟨rfl, Kept.refl _ _⟩
  have hlong := long_any w.heap.size [(A, xs.length, cap)] (w.alloc (.cells #[.slice A xs.length cap] 27))
    (at_new w 27 ([(A, xs.length, cap)].map Piece.val)) (by simp) (by intro p hp; simp at hp; subst hp; simp; omega)
  rw [lensOf_one] at hlong
  by_cases h3 : 65536 < xs.length
  · rw [decide_eq_true (by simpa using h3)] at hlong
    have HL := Lib.hid hlong
    clear hlong
    go_enter Try.func4, Try.ntmps4
    go_wp2_with fail
    refine HL.out.mono ?_
    rintro e w' ⟨rfl, rfl⟩
    go_wp2_with fail
    go_ret
    exact ⟨rfl, (Kept.refl _ _).alloc _⟩
  · rw [decide_eq_false (by simpa using h3)] at hlong
    have HL := Lib.hid hlong
    have HX := Lib.hid hx
    clear hlong hx
    go_enter Try.func4, Try.ntmps4
    go_wp2_with fail
    refine HL.out.mono ?_
    rintro e w' ⟨rfl, rfl⟩
    go_wp2_with fail
    refine (implUnpad_any _ A cap xs (HX.out.alloc _) (by omega) (by omega)).mono ?_
    rintro e w1 ⟨rfl, hk⟩
    have HK := Lib.hid hk
    clear hk
    go_wp2_with fail
    refine (specUnpad_any w1 A cap xs ((HX.out.alloc _).still HK.out) (by omega) (by omega)).mono ?_
    rintro e w' ⟨rfl, rfl⟩
    rcases Bool.eq_false_or_eq_true (isPad xs) with hp | hp <;> rw [hp]
    all_goals
      have HP := Lib.hid hp
      clear hp
      go_wp2_with fail
      go_ret
      exact ⟨rfl, ((Kept.refl _ _).alloc _).none HK.out⟩

end Go.Proofs.Ytcjjcghkokgjfaa
