/-
  math/bits.Len, out of the library's shelf.
-/
import Derived.Shelf.Small.Bits
import Derived.Shelf.Strconv.Itoa0
import Derived.Test.YtmheoenieaemmaaNatBits
namespace Go.Proofs.Ytmheoenieaemmaa
open Go.RowKit Go.Shelf

def lays125_ren : Go.Shelf.Ren := ⟨fun | 125 => 64 | 128 => 81 | 129 => 82 | n => n, fun | 46 => 61 | 3 => 3 | 51 => 112 | 53 => 114 | 4 => 4 | 5 => 5 | 9 => 9 | n => n, fun | n => n⟩
theorem lays125 : Go.Proofs.Lays.n125 Try.prog lays125_ren := {
  mixed := by kernel_rfl
  f125 := Try.func64.trans (congrArg some (by kernel_rfl))
  f128 := Try.func81.trans (congrArg some (by kernel_rfl))
  f129 := Try.func82.trans (congrArg some (by kernel_rfl))
  t3 := Try.underlying3
  a3 := Try.isAgg3
  z3 := Try.sizeOf3
  v3 := Try.zeroValue3
  t4 := Try.underlying4
  a4 := Try.isAgg4
  z4 := Try.sizeOf4
  v4 := Try.zeroValue4
  t5 := Try.underlying5
  a5 := Try.isAgg5
  z5 := Try.sizeOf5
  v5 := Try.zeroValue5
  t9 := Try.underlying9
  a9 := Try.isAgg9
  z9 := Try.sizeOf9
  v9 := Try.zeroValue9
  t46 := Try.underlying61
  a46 := Try.isAgg61
  z46 := Try.sizeOf61
  v46 := Try.zeroValue61
  t51 := Try.underlying112
  a51 := Try.isAgg112
  z51 := Try.sizeOf112
  v51 := Try.zeroValue112
  t53 := Try.underlying114
  a53 := Try.isAgg114
  z53 := Try.sizeOf114
  v53 := Try.zeroValue114 }

theorem bitLenAux_eq (f x : Nat) (h : x < 2 ^ f) : Lib.bitLenAux f x = bitLen x := by
  induction f generalizing x with
  | zero =>
    have : x = 0 := by simp at h; omega
    subst this; rfl
  | succ f ih =>
    unfold Lib.bitLenAux
    split
    · next h0 => subst h0; rfl
    · next h0 => rw [ih _ (by rw [Nat.pow_succ] at h; omega), bitLen_half x (by omega), Nat.add_comm]

theorem bitsLen_any (x : Nat) (w : World) (hx : x < 18446744073709551616) :
    Calls Try.prog 64 #[.int .u64 (x : Int)] w fun e w' => e = .returned (.int .i64 (bitLen x : Int)) ∧ w = w' := by
  refine (Any.bits_Len lays125 (x : Int) w (by omega) (by omega)).mono ?_
  rintro e w' ⟨rfl, rfl⟩
  have e : Lib.bitLen ((x : Int).toNat) = bitLen x := by
    rw [Int.toNat_natCast]
    exact bitLenAux_eq 64 x hx
  rw [e]
  exact ⟨rfl, rfl⟩

end Go.Proofs.Ytmheoenieaemmaa
