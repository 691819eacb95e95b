/-
  make of bytes; impl.either; laws.modulus, spec.HasNought.
  A row of bytes that is filled from its end.
-/
import Derived.Test.YtdmpiecdpdknaaaGreatDoorGj
import Derived.Test.YtdmpiecdpdknaaaGreatDoorGk
namespace Go.Proofs.YtdmpiecdpdknaaaGreatDoor
open Go.RowKit

/-- So many noughts, as a row of cells. -/
def zeroRow (n : Nat) : Array Value := ((List.replicate n (0 : UInt8)).map B).toArray

theorem make_bytes (w : World) (n : Nat) (hn : n ≤ 281474976710656) :
    (Instr.makeSlice 22 (.int .i64 (n : Int)) (.int .i64 (n : Int))).run Tryz.prog w = .ok (.slice (some ⟨w.heap.size, 0, none⟩) n n) (w.alloc (.cells (zeroRow n) 5)) := by
  obtain ⟨i, hi, hz0, hz1, hz2⟩ := info_parts infoByte
  have h := run_make (P := Tryz.prog) w 22 5 i (.int .u8 0) Tryz.underlying22 hi hz0 .i64 .i64 n n (by omega) (Int.le_refl _) (by rw [hz2]; omega) (by omega)
  have e : madeCells (Value.int IntKind.u8 0).cells ((n : Int).toNat * i.size) = zeroRow n := by
    apply Array.toList_inj.1
    rw [hz1, show (Value.int IntKind.u8 0).cells = #[Value.int IntKind.u8 0] from rfl, toList_madeCells_one]
    simp [zeroRow, B]
  rw [h, e]
  simp only [Int.toNat_natCast]

theorem either_ok (A : Option Addr) (c : Nat) (xs : List UInt8) (w : World) (h : BytesAt w A xs) (hl : xs.length ≤ 140737488355328) :
    Calls Tryz.prog 19 #[.slice A xs.length c, .nilIface] w fun e w' => ∃ v, e = .returned (.tuple #[v, .bool true]) ∧ w'.ownsRow w.heap.size 5 1 v xs.length (xs.map B) ∧ Kept NoBlk w w' := by
  have H := Lib.hid h
  clear h
  go_enter Tryz.func19, Tryz.ntmps19
  go_wp2_with fail
  refine (copied_any w A c xs H.out hl).mono ?_
  rintro e w1 ⟨v, rfl, hown, hk⟩
  have HO := Lib.hid hown
  have HK := Lib.hid hk
  clear hown hk
  go_wp2_with fail
  go_ret2
  exact ⟨v, rfl, HO.out, HK.out⟩

theorem either_err (v : Value) (p : Addr) (w : World) :
    Calls Tryz.prog 19 #[v, .iface 115 (.pointer (some p))] w fun e w' => e = .returned (.tuple #[.slice none 0 0, .bool false]) ∧ w = w' := by
  go_enter Tryz.func19, Tryz.ntmps19
  go_wp2_with fail
  go_ret2
  exact ⟨rfl, rfl⟩

end Go.Proofs.YtdmpiecdpdknaaaGreatDoor
namespace Go.Proofs.YtdmpiecdpdknaaaGreatDoor
open Go.RowKit

/-- The last j bytes of size bytes are those of v; those ahead are nought. -/
def tailOf (size j v : Nat) : List UInt8 := enc size (v % Pb j)

theorem tailOf_zero (size v : Nat) : tailOf size 0 v = List.replicate size 0 := by unfold tailOf; rw [Pb_zero, Nat.mod_one, enc_zero]
theorem tailOf_length (size j v : Nat) : (tailOf size j v).length = size := enc_length _ _
theorem enc_get (n v i : Nat) (hi : i < n) : (enc n v)[i]? = some (UInt8.ofNat (v / Pb (n - 1 - i))) := by
  induction n generalizing v i with
  | zero => omega
  | succ n ih =>
    rw [enc]
    rcases Nat.eq_or_lt_of_le (show i ≤ n by omega) with rfl | h
    · rw [List.getElem?_append_right (by rw [enc_length]; omega), enc_length, Nat.sub_self]
      simp [Pb]
    · rw [List.getElem?_append_left (by rw [enc_length]; exact h), ih _ _ h, Nat.div_div_eq_div_mul, ← Pb_succ]
      congr 4
      omega
theorem digit_mod (v i j : Nat) (h : i < j) : v % Pb j / Pb i % 256 = v / Pb i % 256 := by
  obtain ⟨d, rfl⟩ : ∃ d, j = i + (d + 1) := ⟨j - i - 1, by omega⟩
  rw [Pb_add, Nat.mod_mul_right_div_self, Pb_succ, Nat.mod_mul_right_mod]
theorem tailOf_step (size j v : Nat) (hj : j < size) : (tailOf size j v).set (size - 1 - j) (UInt8.ofNat (v / Pb j)) = tailOf size (j + 1) v := by
  apply List.ext_getElem?
  intro i
  rw [List.getElem?_set]
  unfold tailOf
  rw [enc_length]
  by_cases hi : i < size
  · rw [enc_get _ _ _ hi, enc_get _ _ _ hi]
    split
    · next h =>
      subst h
      rw [if_pos (by omega)]
      rw [show size - 1 - (size - 1 - j) = j by omega, Pb_succ, Nat.mul_comm 256, Nat.mod_mul_right_div_self]
      congr 1
      apply UInt8.toNat_inj.1
      simp [UInt8.toNat_ofNat']
    · next h =>
      congr 1
      apply UInt8.toNat_inj.1
      rw [UInt8.toNat_ofNat', UInt8.toNat_ofNat']
      show _ % 256 = _ % 256
      rcases Nat.lt_trichotomy (size - 1 - i) j with h' | h' | h'
      · rw [digit_mod _ _ _ h', digit_mod _ _ _ (by omega)]
      · omega
      · rw [Nat.div_eq_of_lt (Nat.lt_of_lt_of_le (Nat.mod_lt _ (Pb_pos _)) (Pb_le (by omega))), Nat.div_eq_of_lt (Nat.lt_of_lt_of_le (Nat.mod_lt _ (Pb_pos _)) (Pb_le (by omega)))]
  · rw [List.getElem?_eq_none (by rw [enc_length]; omega), List.getElem?_eq_none (by rw [enc_length]; omega)]
    split
    · omega
    · rfl

/-- The row of bytes, so many of them done. -/
def OutRow (g S j v : Nat) (w wr : World) : Prop := Blk wr g 5 ((tailOf S j v).map B).toArray ∧ Kept NoBlk w wr

theorem OutRow.step {g S j v : Nat} {w wr w' : World} {c : Int} (h : OutRow g S j v w wr) (hj : j < S) (hg : w.heap.size ≤ g) (hc : c = ((v / Pb j % 256 : Nat) : Int)) (hw : w' = wr.setCell ⟨g, S - 1 - j, none⟩ (.int .u8 c)) : OutRow g S (j + 1) v w w' := by
  subst hw
  refine ⟨?_, h.2.setNew hg _ _⟩
  have h1 := h.1.set_ (S - 1 - j) (.int .u8 c)
  rw [List.setIfInBounds_toArray] at h1
  rw [← tailOf_step S j v hj, List.map_set]
  have e : B (UInt8.ofNat (v / Pb j)) = .int .u8 c := by
    unfold B
    rw [hc, UInt8.toNat_ofNat']
  rw [e]
  exact h1

end Go.Proofs.YtdmpiecdpdknaaaGreatDoor
