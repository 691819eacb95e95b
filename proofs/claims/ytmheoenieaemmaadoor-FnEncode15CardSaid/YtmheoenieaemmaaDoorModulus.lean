/-
  laws.modulus.
-/
import Derived.Test.YtmheoenieaemmaaDoorMake
namespace Go.Proofs.YtmheoenieaemmaaDoor
open Go.RowKit

/-- The row of modulus after k rounds. -/
def modRow (n k : Nat) : List UInt8 := List.replicate k 255 ++ List.replicate (n - k) 0
theorem modRow_length (n k : Nat) (h : k ≤ n) : (modRow n k).length = n := by simp [modRow]; omega
theorem modRow_set (n k : Nat) (h : k < n) : (modRow n k).set k 255 = modRow n (k + 1) := by
  unfold modRow
  rw [List.set_append, if_neg (by simp), List.length_replicate, Nat.sub_self, show n - k = (n - (k + 1)) + 1 by omega, List.replicate_succ, List.set_cons_zero, List.replicate_succ' (n := k)]
  simp

def row255 (n : Nat) : List UInt8 := List.replicate n 255

theorem modulus_any (n : Nat) (w : World) (hn : n ≤ 1000000) :
    Calls Tryd.prog 13 #[.int .i64 n] w fun e w' => e = .returned (.slice (some ⟨w.heap.size, 0, none⟩) n n) ∧ Blk w' w.heap.size 5 ((row255 n).map B).toArray ∧ Kept NoBlk w w' := by
  have hmk := fun w' => make_bytes w' n (by omega)
  go_enter Tryd.func13, Tryd.ntmps13
  go_wp2_with fail
  have hb0 : Blk (w.alloc (.cells (zeroRow n) 5)) w.heap.size 5 ((modRow n 0).map B).toArray := by
    have := Blk.new w 5 (zeroRow n)
    simpa [modRow, zeroRow] using this
  have HB0 := Lib.hid hb0
  clear hb0
  go_loopw [9] (fun i wr => ∃ k : Nat, k ≤ n ∧ i = .int .i64 k ∧ Blk wr w.heap.size 5 ((modRow n k).map B).toArray ∧ Kept NoBlk w wr) (fun i _ => n - (intOf i).toNat)
  case atStart => exact ⟨0, Nat.zero_le _, rfl, HB0.out, (Kept.refl _ _).alloc _⟩
  case round =>
    obtain ⟨k, hk, rfl, hb, hkept⟩ := hrel
    have HK := Lib.hid hkept
    by_cases hlt : k < n
    · have hl : k < (modRow n k).length := by rw [modRow_length n k hk]; exact hlt
      have hcell : wr.cell? ⟨w.heap.size, k, none⟩ = some (B (modRow n k)[k]) := hb.cellIs (by simp [hl])
      obtain ⟨z, hz⟩ : ∃ z, B (modRow n k)[k] = z := ⟨_, rfl⟩
      rw [hz] at hcell
      have hf := hb.frozen k
      have HB := Lib.hid hb
      clear hb hkept hz HB0
      go_wp2_with fail
      go_roundw
      case rel =>
        refine ⟨k + 1, by omega, by go_num, ?_, HK.out.setNew (Nat.le_refl _) _ _⟩
        have := HB.out.set_ k (B 255)
        rw [List.setIfInBounds_toArray, ← List.map_set, modRow_set n k hlt] at this
        exact this
      case measure => simp [intOf]; omega
    · obtain rfl : k = n := by omega
      have HB := Lib.hid hb
      clear hb hkept HB0
      go_wp2_with fail
      go_ret
      refine ⟨rfl, ?_, HK.out⟩
      have := HB.out
      unfold row255
      simpa [modRow] using this

end Go.Proofs.YtmheoenieaemmaaDoor
