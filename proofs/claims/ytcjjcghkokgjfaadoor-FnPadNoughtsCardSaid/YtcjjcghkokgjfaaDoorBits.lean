/-
  Exclusive or, and, or of machine numbers, in the numbers of Lean's own types.
-/
import Derived.Test.YtcjjcghkokgjfaaDoorMem
import Derived.Laws.BitsLemmas
namespace Go.Proofs.YtcjjcghkokgjfaaDoor
open Go.RowKit

theorem bits_xor_nat (k : IntKind) (j : Nat) (hj : j ≤ k.bits) (hk : ∀ n : Int, 0 ≤ n → n < 2 ^ j → k.wrap n = n) (a b : Nat) (ha : a < 2 ^ j) (hb : b < 2 ^ j) :
    bits .xor k a b = ((a ^^^ b : Nat) : Int) := by
  have hp : 2 ^ j ≤ 2 ^ k.bits := Nat.pow_le_pow_right (by decide) hj
  have ha' : a % 2 ^ k.bits = a := Nat.mod_eq_of_lt (Nat.lt_of_lt_of_le ha hp)
  have hb' : b % 2 ^ k.bits = b := Nat.mod_eq_of_lt (Nat.lt_of_lt_of_le hb hp)
  have cast : ∀ n : Nat, n < 2 ^ j → ((n : Nat) : Int) < 2 ^ j := fun n h => by exact_mod_cast h
  simp only [bits, BitVec.ofInt_natCast, BitVec.toNat_xor, BitVec.toNat_ofNat, ha', hb']
  exact hk _ (Int.natCast_nonneg _) (cast _ (Nat.xor_lt_two_pow ha hb))

theorem xor_u8 (x y : UInt8) : bits .xor .u8 (x.toNat : Int) (y.toNat : Int) = ((x ^^^ y).toNat : Int) := by
  rw [UInt8.toNat_xor]
  exact bits_xor_nat .u8 8 (by decide) wraps_u8 x.toNat y.toNat x.toNat_lt y.toNat_lt
theorem and_u8 (x y : UInt8) : bits .and .u8 (x.toNat : Int) (y.toNat : Int) = ((x &&& y).toNat : Int) := by
  rw [UInt8.toNat_and]
  exact (bits_nat .u8 8 (by decide) wraps_u8 x.toNat y.toNat x.toNat_lt y.toNat_lt).1
theorem or_u8 (x y : UInt8) : bits .or .u8 (x.toNat : Int) (y.toNat : Int) = ((x ||| y).toNat : Int) := by
  rw [UInt8.toNat_or]
  exact (bits_nat .u8 8 (by decide) wraps_u8 x.toNat y.toNat x.toNat_lt y.toNat_lt).2
end Go.Proofs.YtcjjcghkokgjfaaDoor
