/-
  math/bits.Len, out of the library's shelf.
  bigmod.Nat.ExpShortVarTime.
-/
import Derived.Shelf.Small.Bits
import Derived.Shelf.Strconv.Itoa0
import Derived.Test.YtdmpiecdpdknaaaGd
import Derived.Test.YtdmpiecdpdknaaaGg
namespace Go.Proofs.Ytdmpiecdpdknaaa
open Go.RowKit Go.Shelf

theorem bitLenAux_eq (f x : Nat) (h : x < 2 ^ f) : Lib.bitLenAux f x = bitLen x := by
  induction f generalizing x with
  | zero =>
    have : x = 0 := by simp at h; omega
    subst this; rfl
  | succ f ih =>
    unfold Lib.bitLenAux
    split
    · next h0 => subst h0; rfl
    · next h0 => rw [ih _ (by rw [Nat.pow_succ] at h; omega), bitLen_half x (by omega), Nat.add_comm]

end Go.Proofs.Ytdmpiecdpdknaaa
namespace Go.Proofs.Ytdmpiecdpdknaaa
open Go.RowKit

theorem shr_top (e l : Nat) (h : bitLen e = l + 1) : e / 2 ^ l = 1 := by
  have a := (bitLen_le e (l + 1)).1 (by omega)
  have b : 2 ^ l ≤ e := by
    apply Classical.byContradiction
    intro hc
    have := (bitLen_le e l).2 (by omega)
    omega
  rw [Nat.pow_succ] at a
  apply Nat.div_eq_of_lt_le
  · omega
  · rw [Nat.add_mul, Nat.one_mul]; omega

theorem shr_int (e i s : Nat) (h : e / 2 ^ i = s) : (e : Int) / 2 ^ i = (s : Int) := by
  have e1 : (2 : Int) ^ i = ((2 ^ i : Nat) : Int) := by rw [Int.natCast_pow]; rfl
  rw [e1, ← h, Int.natCast_ediv]

end Go.Proofs.Ytdmpiecdpdknaaa
