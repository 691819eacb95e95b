/-
  impl.Unpad, and the walk of FnUnpad.
-/
import Derived.Test.YtcjjcghkokgjfaaDoorUnpad
import Derived.Test.YtcjjcghkokgjfaaDoorLong
namespace Go.Proofs.YtcjjcghkokgjfaaDoor
open Go.RowKit

theorem implUnpad_any (w : World) (A : Option Addr) (c : Nat) (xs : List UInt8) (hx : BytesAt w A xs) (hl2 : 2 ≤ xs.length) (hl : xs.length ≤ 2147483647) :
    Calls Tryd.prog 14 #[.slice A xs.length c] w fun e w' =>
      e = .returned (.tuple #[.bool (isPad xs), .int .i64 (bif isPad xs then (zAt xs : Int) + 1 else 0)]) ∧ Kept NoBlk w w' := by
  go_enter Tryd.func14, Tryd.ntmps14
  go_wp2_with fail
  refine (copied_any w A c xs hx (by omega)).mono ?_
  rintro e w1 ⟨v, rfl, hown, hk⟩
  obtain ⟨A1, c1, rfl, _, _, hat, _⟩ := own_form hown
  have HK := Lib.hid hk
  clear hk hown
  go_wp2_with fail
  refine (unpad_any w1 A1 c1 xs hat hl2 hl).mono ?_
  rintro e w' ⟨rfl, rfl⟩
  rcases Bool.eq_false_or_eq_true (isPad xs) with hp | hp <;> rw [hp]
  all_goals
    have HP := Lib.hid hp
    clear hp
    go_wp2_with fail
    go_ret2
    exact ⟨by rw [HP.out]; rfl, HK.out⟩

end Go.Proofs.YtcjjcghkokgjfaaDoor
