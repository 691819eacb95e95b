/-
  rsa.ZZHashPrefix, rsa.hashSize at the names of which the laws speak, and at a name that is none.
-/
import Derived.Test.YtmheoenieaemmaaDoorHashNames
namespace Go.Proofs.YtmheoenieaemmaaDoor
open Go.RowKit

theorem pfxTab_at (i : Nat) (hi : i < 8) : pfxTab[i]? = some (hName i, hPfx i) := by
  have h : i = 0 ∨ i = 1 ∨ i = 2 ∨ i = 3 ∨ i = 4 ∨ i = 5 ∨ i = 6 ∨ i = 7 := by omega
  rcases h with rfl | rfl | rfl | rfl | rfl | rfl | rfl | rfl <;> rfl

def keyDistinct : Bool := (List.range 8).all fun i => (List.range i).all fun m => (pfxTab.map fun x => x.1.data.toList)[m]? != (pfxTab.map fun x => x.1.data.toList)[i]?
theorem keyDistinct_yes : keyDistinct = true := by decide +kernel

theorem pfxTab_first (i : Nat) (hi : i < 8) (m : Nat) (y : ByteArray × List UInt8) (hm : m < i) (hy : pfxTab[m]? = some y) : y.1 ≠ hName i := by
  intro e
  have h := List.all_eq_true.1 keyDistinct_yes i (List.mem_range.2 hi)
  have h2 := List.all_eq_true.1 h m (List.mem_range.2 hm)
  simp only [List.getElem?_map, hy, pfxTab_at i hi, Option.map_some, bne_iff_ne, ne_eq, Option.some.injEq] at h2
  exact h2 (by rw [e])

/-- The prefix of a name: a slice of its bytes, and yes. -/
def GivesPfx (xs : List UInt8) (w : World) (e : Ending) (w' : World) : Prop :=
  ∃ A, e = .returned (.tuple #[.slice A xs.length xs.length, .bool true]) ∧ BytesAt w' A xs ∧ Kept NoBlk w w'

theorem toList_ne (t : ByteArray) (l : List UInt8) (h : (⟨l.toArray⟩ : ByteArray) ≠ t) : (t.toList == l) = false := by
  rw [beq_eq_false_iff_ne]
  intro e
  apply h
  rw [← e, ByteArray.toList_eq]

theorem hashSize_0 (w : World) : Calls Tryd.prog 75 #[.string ⟨#[77, 68, 53]⟩] w fun e w' => e = .returned (.int .i64 16) ∧ w = w' := by
  go_enter Tryd.func75, Tryd.ntmps75
  go_wp2_with fail
  go_ret
  exact ⟨rfl, rfl⟩
theorem hashSize_1 (w : World) : Calls Tryd.prog 75 #[.string ⟨#[83, 72, 65, 45, 49]⟩] w fun e w' => e = .returned (.int .i64 20) ∧ w = w' := by
  go_enter Tryd.func75, Tryd.ntmps75
  go_wp2_with fail
  go_ret
  exact ⟨rfl, rfl⟩
theorem hashSize_2 (w : World) : Calls Tryd.prog 75 #[.string ⟨#[83, 72, 65, 45, 50, 50, 52]⟩] w fun e w' => e = .returned (.int .i64 28) ∧ w = w' := by
  go_enter Tryd.func75, Tryd.ntmps75
  go_wp2_with fail
  go_ret
  exact ⟨rfl, rfl⟩
theorem hashSize_3 (w : World) : Calls Tryd.prog 75 #[.string ⟨#[83, 72, 65, 45, 50, 53, 54]⟩] w fun e w' => e = .returned (.int .i64 32) ∧ w = w' := by
  go_enter Tryd.func75, Tryd.ntmps75
  go_wp2_with fail
  go_ret
  exact ⟨rfl, rfl⟩
theorem hashSize_4 (w : World) : Calls Tryd.prog 75 #[.string ⟨#[83, 72, 65, 45, 51, 56, 52]⟩] w fun e w' => e = .returned (.int .i64 48) ∧ w = w' := by
  go_enter Tryd.func75, Tryd.ntmps75
  go_wp2_with fail
  go_ret
  exact ⟨rfl, rfl⟩
theorem hashSize_5 (w : World) : Calls Tryd.prog 75 #[.string ⟨#[83, 72, 65, 45, 53, 49, 50]⟩] w fun e w' => e = .returned (.int .i64 64) ∧ w = w' := by
  go_enter Tryd.func75, Tryd.ntmps75
  go_wp2_with fail
  go_ret
  exact ⟨rfl, rfl⟩
theorem hashSize_6 (w : World) : Calls Tryd.prog 75 #[.string ⟨#[83, 72, 65, 45, 53, 49, 50, 47, 50, 50, 52]⟩] w fun e w' => e = .returned (.int .i64 28) ∧ w = w' := by
  go_enter Tryd.func75, Tryd.ntmps75
  go_wp2_with fail
  go_ret
  exact ⟨rfl, rfl⟩
theorem hashSize_7 (w : World) : Calls Tryd.prog 75 #[.string ⟨#[83, 72, 65, 45, 53, 49, 50, 47, 50, 53, 54]⟩] w fun e w' => e = .returned (.int .i64 32) ∧ w = w' := by
  go_enter Tryd.func75, Tryd.ntmps75
  go_wp2_with fail
  go_ret
  exact ⟨rfl, rfl⟩
theorem hashSize_name (i : Nat) (hi : i < 8) (w : World) : Calls Tryd.prog 75 #[.string (hName i)] w fun e w' => e = .returned (.int .i64 (hSize i)) ∧ w = w' := by
  have h : i = 0 ∨ i = 1 ∨ i = 2 ∨ i = 3 ∨ i = 4 ∨ i = 5 ∨ i = 6 ∨ i = 7 := by omega
  rcases h with rfl | rfl | rfl | rfl | rfl | rfl | rfl | rfl
  · exact hashSize_0 w
  · exact hashSize_1 w
  · exact hashSize_2 w
  · exact hashSize_3 w
  · exact hashSize_4 w
  · exact hashSize_5 w
  · exact hashSize_6 w
  · exact hashSize_7 w

theorem hashSize_miss (t : ByteArray) (ht : ∀ x ∈ pfxTab, x.1 ≠ t) (w : World) : Calls Tryd.prog 75 #[.string t] w fun e w' => e = .returned (.int .i64 (-1)) ∧ w = w' := by
  have f0 : (t.toList == [77, 68, 53]) = false := toList_ne t _ (ht (⟨#[77, 68, 53]⟩, [48, 32, 48, 12, 6, 8, 42, 134, 72, 134, 247, 13, 2, 5, 5, 0, 4, 16]) (by unfold pfxTab; simp))
  have f1 : (t.toList == [83, 72, 65, 45, 49]) = false := toList_ne t _ (ht (⟨#[83, 72, 65, 45, 49]⟩, [48, 33, 48, 9, 6, 5, 43, 14, 3, 2, 26, 5, 0, 4, 20]) (by unfold pfxTab; simp))
  have f2 : (t.toList == [83, 72, 65, 45, 50, 50, 52]) = false := toList_ne t _ (ht (⟨#[83, 72, 65, 45, 50, 50, 52]⟩, [48, 45, 48, 13, 6, 9, 96, 134, 72, 1, 101, 3, 4, 2, 4, 5, 0, 4, 28]) (by unfold pfxTab; simp))
  have f3 : (t.toList == [83, 72, 65, 45, 50, 53, 54]) = false := toList_ne t _ (ht (⟨#[83, 72, 65, 45, 50, 53, 54]⟩, [48, 49, 48, 13, 6, 9, 96, 134, 72, 1, 101, 3, 4, 2, 1, 5, 0, 4, 32]) (by unfold pfxTab; simp))
  have f4 : (t.toList == [83, 72, 65, 45, 51, 56, 52]) = false := toList_ne t _ (ht (⟨#[83, 72, 65, 45, 51, 56, 52]⟩, [48, 65, 48, 13, 6, 9, 96, 134, 72, 1, 101, 3, 4, 2, 2, 5, 0, 4, 48]) (by unfold pfxTab; simp))
  have f5 : (t.toList == [83, 72, 65, 45, 53, 49, 50]) = false := toList_ne t _ (ht (⟨#[83, 72, 65, 45, 53, 49, 50]⟩, [48, 81, 48, 13, 6, 9, 96, 134, 72, 1, 101, 3, 4, 2, 3, 5, 0, 4, 64]) (by unfold pfxTab; simp))
  have f6 : (t.toList == [83, 72, 65, 45, 53, 49, 50, 47, 50, 50, 52]) = false := toList_ne t _ (ht (⟨#[83, 72, 65, 45, 53, 49, 50, 47, 50, 50, 52]⟩, [48, 45, 48, 13, 6, 9, 96, 134, 72, 1, 101, 3, 4, 2, 5, 5, 0, 4, 28]) (by unfold pfxTab; simp))
  have f7 : (t.toList == [83, 72, 65, 45, 53, 49, 50, 47, 50, 53, 54]) = false := toList_ne t _ (ht (⟨#[83, 72, 65, 45, 53, 49, 50, 47, 50, 53, 54]⟩, [48, 49, 48, 13, 6, 9, 96, 134, 72, 1, 101, 3, 4, 2, 6, 5, 0, 4, 32]) (by unfold pfxTab; simp))
  have f8 : (t.toList == [83, 72, 65, 51, 45, 50, 50, 52]) = false := toList_ne t _ (ht (⟨#[83, 72, 65, 51, 45, 50, 50, 52]⟩, [48, 45, 48, 13, 6, 9, 96, 134, 72, 1, 101, 3, 4, 2, 7, 5, 0, 4, 28]) (by unfold pfxTab; simp))
  have f9 : (t.toList == [83, 72, 65, 51, 45, 50, 53, 54]) = false := toList_ne t _ (ht (⟨#[83, 72, 65, 51, 45, 50, 53, 54]⟩, [48, 49, 48, 13, 6, 9, 96, 134, 72, 1, 101, 3, 4, 2, 8, 5, 0, 4, 32]) (by unfold pfxTab; simp))
  have f10 : (t.toList == [83, 72, 65, 51, 45, 51, 56, 52]) = false := toList_ne t _ (ht (⟨#[83, 72, 65, 51, 45, 51, 56, 52]⟩, [48, 65, 48, 13, 6, 9, 96, 134, 72, 1, 101, 3, 4, 2, 9, 5, 0, 4, 48]) (by unfold pfxTab; simp))
  have f11 : (t.toList == [83, 72, 65, 51, 45, 53, 49, 50]) = false := toList_ne t _ (ht (⟨#[83, 72, 65, 51, 45, 53, 49, 50]⟩, [48, 81, 48, 13, 6, 9, 96, 134, 72, 1, 101, 3, 4, 2, 10, 5, 0, 4, 64]) (by unfold pfxTab; simp))
  have f12 : (t.toList == [77, 68, 53, 43, 83, 72, 65, 49]) = false := toList_ne t _ (ht (⟨#[77, 68, 53, 43, 83, 72, 65, 49]⟩, []) (by unfold pfxTab; simp))
  have f13 : (t.toList == [82, 73, 80, 69, 77, 68, 45, 49, 54, 48]) = false := toList_ne t _ (ht (⟨#[82, 73, 80, 69, 77, 68, 45, 49, 54, 48]⟩, [48, 32, 48, 8, 6, 6, 40, 207, 6, 3, 0, 49, 4, 20]) (by unfold pfxTab; simp))
  clear ht
  go_enter Tryd.func75, Tryd.ntmps75
  go_wp2_with fail
  go_ret
  exact ⟨rfl, rfl⟩

end Go.Proofs.YtmheoenieaemmaaDoor
