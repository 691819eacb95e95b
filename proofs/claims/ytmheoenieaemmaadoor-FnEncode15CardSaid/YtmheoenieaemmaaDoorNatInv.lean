/-
  bigmod.minusInverseModW.
-/
import Derived.Test.YtmheoenieaemmaaDoorNatBits
namespace Go.Proofs.YtmheoenieaemmaaDoor
open Go.RowKit

/-- So many bits are right after i rounds. -/
def rightBits (i : Nat) : Nat := min 64 (3 * 2 ^ i)

theorem wrapSub2 (s : Nat) (hs : s < 18446744073709551616) : IntKind.u64.wrap (2 - (s : Int)) = (((2 + 18446744073709551616 - s) % 18446744073709551616 : Nat) : Int) := by
  rw [IntKind.wrap_u64]; omega
theorem wrapNeg (s : Nat) (hs : s < 18446744073709551616) : IntKind.u64.wrap (-(s : Int)) = (((18446744073709551616 - s) % 18446744073709551616 : Nat) : Int) := by
  rw [IntKind.wrap_u64]; omega

theorem minusInv_any (x : Nat) (w : World) (hx : x < 18446744073709551616) (ho : x % 2 = 1) :
    Calls Tryd.prog 103 #[.int .u64 x] w fun e w' => ∃ z : Nat, e = .returned (.int .u64 z) ∧ z < 18446744073709551616 ∧ x * z % 18446744073709551616 = 18446744073709551615 ∧ w = w' := by
  have hst : 2 ^ rightBits 0 ∣ x * x + (2 ^ rightBits 0 - 1) := newton_start x ho
  have HST := Lib.hid hst
  have HX := Lib.hid hx
  clear hst ho hx
  go_enter Tryd.func103, Tryd.ntmps103
  go_wp2_with fail
  go_loop [3, 4] (fun yv iv => ∃ (i y : Nat), i ≤ 5 ∧ yv = .int .u64 (y : Int) ∧ iv = .int .i64 (i : Int) ∧ y < 18446744073709551616 ∧ 2 ^ rightBits i ∣ x * y + (2 ^ rightBits i - 1)) (fun _ iv => 5 - (intOf iv).toNat)
  case atStart => exact ⟨0, x, by omega, rfl, rfl, HX.out, HST.out⟩
  case round =>
    obtain ⟨i, y, hi, rfl, rfl, hy, hd⟩ := hrel
    have HY := Lib.hid hy
    by_cases hlt : i < 5
    · obtain ⟨s, hs⟩ : ∃ s, s = x * y % 18446744073709551616 := ⟨_, rfl⟩
      have hsl : s < 18446744073709551616 := by rw [hs]; exact Nat.mod_lt _ (by decide)
      obtain ⟨d, hdd⟩ : ∃ d, d = (2 + 18446744073709551616 - s) % 18446744073709551616 := ⟨_, rfl⟩
      obtain ⟨y', hy'⟩ : ∃ y', y' = y * d % 18446744073709551616 := ⟨_, rfl⟩
      have h1 : IntKind.u64.wrap ((x : Int) * (y : Int)) = (s : Int) := by rw [Mul64.mulN, Mul64.wrapM, hs]
      have h2 : IntKind.u64.wrap (2 - (s : Int)) = (d : Int) := by rw [wrapSub2 s hsl, hdd]
      have h3 : IntKind.u64.wrap ((y : Int) * (d : Int)) = (y' : Int) := by rw [Mul64.mulN, Mul64.wrapM, hy']
      have hr : rightBits (i + 1) ≤ 2 * rightBits i := by unfold rightBits; rw [Nat.pow_succ]; omega
      have hd2 := newton x y s d y' (rightBits i) (rightBits (i + 1)) hr (by unfold rightBits; omega) hs hdd hy' hd
      have hyl : y' < 18446744073709551616 := by rw [hy']; exact Nat.mod_lt _ (by decide)
      have HD := Lib.hid hd2
      have HYL := Lib.hid hyl
      clear hd hs hdd hy' hr hd2 hyl hsl hy
      go_wp2_with fail
      go_round
      case rel => exact ⟨i + 1, y', by omega, by go_num, by go_num, HYL.out, HD.out⟩
      case measure => simp [intOf]; omega
    · obtain rfl : i = 5 := by omega
      obtain ⟨z, hz⟩ : ∃ z, z = (18446744073709551616 - y) % 18446744073709551616 := ⟨_, rfl⟩
      have h1 : IntKind.u64.wrap (-(y : Int)) = (z : Int) := by rw [wrapNeg y hy, hz]
      have hend := newton_end x y z hy hd hz
      have hzl : z < 18446744073709551616 := by rw [hz]; exact Nat.mod_lt _ (by decide)
      have HE := Lib.hid hend
      have HZ := Lib.hid hzl
      clear hz hd hend hzl hy
      rw [show (((5 : Nat)) : Int) = 5 from rfl]
      go_wp2_with fail
      go_ret
      exact ⟨z, rfl, HZ.out, HE.out, rfl⟩

end Go.Proofs.YtmheoenieaemmaaDoor
