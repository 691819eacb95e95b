/-
  spec.Names; what spec.Prefix answers.
-/
import Derived.Test.YtmheoenieaemmaaDoorHashSize
import Derived.Test.YtmheoenieaemmaaDoorJoined
namespace Go.Proofs.YtmheoenieaemmaaDoor
open Go.RowKit

def GivesNames (w : World) (e : Ending) (w' : World) : Prop :=
  ∃ g, e = .returned (.slice (some ⟨g, 0, none⟩) 8 8) ∧ (∀ i, i < 8 → w'.cell? ⟨g, i, none⟩ = some (.string (hName i))) ∧ Kept NoBlk w w'

theorem names_any (w : World) : Calls Tryd.prog 11 #[] w (GivesNames w) := by
  go_enter Tryd.func11, Tryd.ntmps11
  go_wp2_with fail
  go_ret
  refine ⟨w.heap.size, rfl, fun i hi => ?_, (Kept.refl _ w).alloc _⟩
  have h : i = 0 ∨ i = 1 ∨ i = 2 ∨ i = 3 ∨ i = 4 ∨ i = 5 ∨ i = 6 ∨ i = 7 := by omega
  have hb := Blk.new w 9 #[.string ⟨#[77, 68, 53]⟩, .string ⟨#[83, 72, 65, 45, 49]⟩, .string ⟨#[83, 72, 65, 45, 50, 50, 52]⟩, .string ⟨#[83, 72, 65, 45, 50, 53, 54]⟩, .string ⟨#[83, 72, 65, 45, 51, 56, 52]⟩, .string ⟨#[83, 72, 65, 45, 53, 49, 50]⟩, .string ⟨#[83, 72, 65, 45, 53, 49, 50, 47, 50, 50, 52]⟩, .string ⟨#[83, 72, 65, 45, 53, 49, 50, 47, 50, 53, 54]⟩]
  rcases h with rfl | rfl | rfl | rfl | rfl | rfl | rfl | rfl <;> exact hb.cellIs rfl

/-- The prefix of a name, its size, and yes. -/
def GivesSpecPfx (xs : List UInt8) (n : Nat) (w : World) (e : Ending) (w' : World) : Prop :=
  ∃ A c, e = .returned (.tuple #[.slice A xs.length c, .int .i64 n, .bool true]) ∧ BytesAt w' A xs ∧ xs.length ≤ c ∧ c ≤ maxLen ∧ Kept NoBlk w w'

theorem own_lit (w : World) (xs : List UInt8) (hl : xs.length ≤ 1000) : (w.alloc (.cells (xs.map B).toArray 5)).ownsRow w.heap.size 5 1 (.slice (some ⟨w.heap.size, 0, none⟩) xs.length xs.length) xs.length (xs.map B) := by
  have h := World.ownsRow_lit (e := 5) (size := 1) w (xs.map B).toArray xs.length (Nat.le_refl _) (by unfold maxLen; omega) (by simp)
  simpa using h

end Go.Proofs.YtmheoenieaemmaaDoor
