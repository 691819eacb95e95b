/-
  The digest's block: words, bytes, and the three numbers behind.
-/
import Derived.Test.YtgkfnmmajehobaaBgRound
import Derived.Test.YtgkfnmmajehobaaCopy
namespace Go.Proofs.Ytgkfnmmajehobaa
open Go.RowKit

/-- The digest's block: eight words, and the rest. -/
def DgAt (w : World) (g : Nat) (h : Reg) (rest : List Value) : Prop := Blk w g 54 ([UU h.a, UU h.b, UU h.c, UU h.d, UU h.e, UU h.f, UU h.g, UU h.h] ++ rest).toArray

theorem andNot63 (n : Nat) (h : n ≤ 1000000) : bits .andNot .i64 (n : Int) 63 = ((64 * (n / 64) : Nat) : Int) := by
  have e2 : (BitVec.ofInt 64 (n : Int) &&& ~~~ BitVec.ofInt 64 63).toNat = 64 * (n / 64) := by
    rw [BitVec.ofInt_natCast, BitVec.toNat_and, show (~~~ BitVec.ofInt 64 63).toNat = (2 ^ 58 - 1) * 2 ^ 6 from by decide, BitVec.toNat_ofNat, Nat.mod_eq_of_lt (by omega)]
    apply Nat.eq_of_testBit_eq
    intro i
    rw [Nat.testBit_and, Nat.testBit_mul_two_pow, Nat.testBit_two_pow_sub_one, show 64 * (n / 64) = (n / 2 ^ 6) * 2 ^ 6 from by omega, Nat.testBit_mul_two_pow, Nat.testBit_div_two_pow]
    by_cases h6 : 6 ≤ i
    · rw [decide_eq_true h6, Nat.sub_add_cancel h6]
      by_cases h58 : i - 6 < 58
      · rw [decide_eq_true h58]; simp
      · have : n.testBit i = false := Nat.testBit_lt_two_pow (Nat.lt_of_lt_of_le (by omega : n < 2 ^ 20) (Nat.pow_le_pow_right (by omega) (by omega)))
        rw [this]; simp
    · rw [decide_eq_false h6]; simp
  show IntKind.i64.wrap ((BitVec.ofInt 64 (n : Int) &&& ~~~ BitVec.ofInt 64 63).toNat : Int) = _
  rw [e2, IntKind.wrap_i64]
  omega

/-- What lies behind the words. -/
def DgR (x : List UInt8) (nx len : Int) (s : Bool) : List Value := x.map B ++ [.int .i64 nx, .int .u64 len, .bool s]
def DgL (h : Reg) (r : List Value) : List Value := [UU h.a, UU h.b, UU h.c, UU h.d, UU h.e, UU h.f, UU h.g, UU h.h] ++ r
theorem dgL_length (h : Reg) (r : List Value) : (DgL h r).length = 8 + r.length := by unfold DgL; rw [List.length_append]; rfl
theorem dgR_length {x : List UInt8} {nx len : Int} {s : Bool} (hx : x.length = 64) : (DgR x nx len s).length = 67 := by unfold DgR; rw [List.length_append, List.length_map, hx]; rfl
theorem dgL_at (h : Reg) (r : List Value) (j : Nat) : (DgL h r)[8 + j]? = r[j]? := by
  unfold DgL
  rw [List.getElem?_append_right (by simp), show 8 + j - [UU h.a, UU h.b, UU h.c, UU h.d, UU h.e, UU h.f, UU h.g, UU h.h].length = j from by simp]
theorem dgL_set (h : Reg) (r : List Value) (j : Nat) (v : Value) : (DgL h r).set (8 + j) v = DgL h (r.set j v) := by
  unfold DgL
  rw [List.set_append_right _ _ (by simp), show 8 + j - [UU h.a, UU h.b, UU h.c, UU h.d, UU h.e, UU h.f, UU h.g, UU h.h].length = j from by simp]

section
variable {w w' : World} {g : Nat} {h : Reg} {x : List UInt8} {nx len : Int} {s : Bool}
theorem DgAt.rest {r : List Value} (hd : DgAt w g h r) (j : Nat) : w.cell? ⟨g, 8 + j, none⟩ = r[j]? := (Blk.cell hd (8 + j)).trans (by rw [List.getElem?_toArray]; exact dgL_at h r j)
theorem dgR_tail (hx : x.length = 64) (j : Nat) : (DgR x nx len s)[64 + j]? = [.int .i64 nx, .int .u64 len, .bool s][j]? := by
  unfold DgR
  rw [List.getElem?_append_right (by rw [List.length_map]; omega), List.length_map, hx, show 64 + j - 64 = j from by omega]
theorem DgAt.nxC (hd : DgAt w g h (DgR x nx len s)) (hx : x.length = 64) : w.cell? ⟨g, 72, none⟩ = some (.int .i64 nx) := (hd.rest 64).trans (dgR_tail hx 0)
theorem DgAt.lenC (hd : DgAt w g h (DgR x nx len s)) (hx : x.length = 64) : w.cell? ⟨g, 73, none⟩ = some (.int .u64 len) := (hd.rest 65).trans (dgR_tail hx 1)
theorem DgAt.isC (hd : DgAt w g h (DgR x nx len s)) (hx : x.length = 64) : w.cell? ⟨g, 74, none⟩ = some (.bool s) := (hd.rest 66).trans (dgR_tail hx 2)
theorem DgAt.set_ {r : List Value} (hd : DgAt w g h r) (j : Nat) (v : Value) : DgAt (w.setCell ⟨g, 8 + j, none⟩ v) g h (r.set j v) := by
  have := Blk.set_ hd (8 + j) v
  rw [List.setIfInBounds_toArray] at this
  have e := dgL_set h r j v
  unfold DgL at e
  rw [e] at this
  exact this
theorem DgAt.setNx (hd : DgAt w g h (DgR x nx len s)) (hx : x.length = 64) (n2 : Int) : DgAt (w.setCell ⟨g, 72, none⟩ (.int .i64 n2)) g h (DgR x n2 len s) := by
  have := hd.set_ 64 (.int .i64 n2)
  unfold DgR at this
  rw [List.set_append_right _ _ (by rw [List.length_map]; omega), List.length_map, hx] at this
  exact this
theorem DgAt.setLen (hd : DgAt w g h (DgR x nx len s)) (hx : x.length = 64) (n2 : Int) : DgAt (w.setCell ⟨g, 73, none⟩ (.int .u64 n2)) g h (DgR x nx n2 s) := by
  have := hd.set_ 65 (.int .u64 n2)
  unfold DgR at this
  rw [List.set_append_right _ _ (by rw [List.length_map]; omega), List.length_map, hx] at this
  exact this
theorem DgAt.bytes (hd : DgAt w g h (DgR x nx len s)) : BytesAt w (some ⟨g, 8, none⟩) x := by
  refine BytesAt.mk (Blk.lt hd) (fun j u hu => (hd.rest j).trans ?_)
  unfold DgR
  have hj : j < (x.map B).length := by
    rw [List.length_map]
    rcases Nat.lt_or_ge j x.length with h1 | h1
    · exact h1
    · rw [List.getElem?_eq_none h1] at hu; cases hu
  rw [List.getElem?_append_left hj, List.getElem?_map, hu]
  rfl
theorem DgAt.kept {r : List Value} (hd : DgAt w g h r) {S : Nat → Prop} (k : Kept S w w') (hs : ¬ S g) : DgAt w' g h r := Blk.kept hd k hs
theorem splice_len {α : Type} (L vs : List α) (off : Nat) (h : off + vs.length ≤ L.length) : (splice L off vs).length = L.length := length_splice L off vs h
theorem dgL_splice (h : Reg) (x ys : List UInt8) (nx len : Int) (s : Bool) (hx : x.length = 64) (k : Nat) (hk : k + ys.length ≤ 64) : splice (DgL h (DgR x nx len s)) (8 + k) (ys.map B) = DgL h (DgR (splice x k ys) nx len s) := by
  apply List.ext_getElem?
  intro j
  rw [getElem?_splice _ _ _ (by rw [List.length_map, dgL_length, dgR_length hx]; omega), List.length_map]
  have hxl := splice_len x ys k (by omega)
  rcases Nat.lt_or_ge j 8 with h8 | h8
  · rw [if_neg (by omega)]
    unfold DgL
    rw [List.getElem?_append_left (by simpa using h8), List.getElem?_append_left (by simpa using h8)]
  · obtain ⟨i, rfl⟩ : ∃ i, j = 8 + i := ⟨j - 8, by omega⟩
    rw [dgL_at, dgL_at]
    unfold DgR
    rcases Nat.lt_or_ge i 64 with h64 | h64
    · rw [List.getElem?_append_left (by rw [List.length_map]; omega), List.getElem?_append_left (by rw [List.length_map, hxl]; omega), List.getElem?_map, List.getElem?_map, List.getElem?_map, getElem?_splice x ys k (by omega)]
      by_cases hi : k ≤ i ∧ i < k + ys.length
      · rw [if_pos (by omega), if_pos hi, show 8 + i - (8 + k) = i - k from by omega]
      · rw [if_neg (by omega), if_neg hi]
    · rw [if_neg (by omega), List.getElem?_append_right (by rw [List.length_map]; omega), List.getElem?_append_right (by rw [List.length_map, hxl]; omega), List.length_map, List.length_map, hxl]
theorem splice_take (x ys : List UInt8) (k : Nat) (hk : k + ys.length ≤ x.length) : (splice x k ys).take (k + ys.length) = x.take k ++ ys := by
  unfold splice
  rw [← List.append_assoc, List.take_append_of_le_length (by rw [List.length_append, List.length_take]; omega)]
  rw [List.take_of_length_le (by rw [List.length_append, List.length_take]; omega)]
end

end Go.Proofs.Ytgkfnmmajehobaa
