/-
  spec.Names, spec.Prefix, impl.Prefix, impl.HashSize.
-/
import Derived.Test.YtcjjcghkokgjfaaHashSize
import Derived.Test.YtcjjcghkokgjfaaJoined
namespace Go.Proofs.Ytcjjcghkokgjfaa
open Go.RowKit

def GivesNames (w : World) (e : Ending) (w' : World) : Prop :=
  ∃ g, e = .returned (.slice (some ⟨g, 0, none⟩) 8 8) ∧ (∀ i, i < 8 → w'.cell? ⟨g, i, none⟩ = some (.string (hName i))) ∧ Kept NoBlk w w'

theorem names_any (w : World) : Calls Try.prog 13 #[] w (GivesNames w) := by
  go_enter Try.func13, Try.ntmps13
  go_wp2_with fail
  go_ret
  refine ⟨w.heap.size, rfl, fun i hi => ?_, (Kept.refl _ w).alloc _⟩
  have h : i = 0 ∨ i = 1 ∨ i = 2 ∨ i = 3 ∨ i = 4 ∨ i = 5 ∨ i = 6 ∨ i = 7 := by omega
  have hb := Blk.new w 9 #[.string ⟨#[77, 68, 53]⟩, .string ⟨#[83, 72, 65, 45, 49]⟩, .string ⟨#[83, 72, 65, 45, 50, 50, 52]⟩, .string ⟨#[83, 72, 65, 45, 50, 53, 54]⟩, .string ⟨#[83, 72, 65, 45, 51, 56, 52]⟩, .string ⟨#[83, 72, 65, 45, 53, 49, 50]⟩, .string ⟨#[83, 72, 65, 45, 53, 49, 50, 47, 50, 50, 52]⟩, .string ⟨#[83, 72, 65, 45, 53, 49, 50, 47, 50, 53, 54]⟩]
  rcases h with rfl | rfl | rfl | rfl | rfl | rfl | rfl | rfl <;> exact hb.cellIs rfl

/-- The prefix of a name, its size, and yes. -/
def GivesSpecPfx (xs : List UInt8) (n : Nat) (w : World) (e : Ending) (w' : World) : Prop :=
  ∃ A c, e = .returned (.tuple #[.slice A xs.length c, .int .i64 n, .bool true]) ∧ BytesAt w' A xs ∧ xs.length ≤ c ∧ c ≤ maxLen ∧ Kept NoBlk w w'

theorem own_lit (w : World) (xs : List UInt8) (hl : xs.length ≤ 1000) : (w.alloc (.cells (xs.map B).toArray 5)).ownsRow w.heap.size 5 1 (.slice (some ⟨w.heap.size, 0, none⟩) xs.length xs.length) xs.length (xs.map B) := by
  have h := World.ownsRow_lit (e := 5) (size := 1) w (xs.map B).toArray xs.length (Nat.le_refl _) (by unfold maxLen; omega) (by simp)
  simpa using h

theorem implPrefix_hit (i : Nat) (hi : i < 8) (w : World) : Calls Try.prog 14 #[.string (hName i)] w fun e w' => ∃ A c, e = .returned (.tuple #[.slice A (hPfx i).length c, .bool true]) ∧ BytesAt w' A (hPfx i) ∧ Kept NoBlk w w' := by
  have hlen : (hPfx i).length ≤ 140737488355328 := by
    have h : i = 0 ∨ i = 1 ∨ i = 2 ∨ i = 3 ∨ i = 4 ∨ i = 5 ∨ i = 6 ∨ i = 7 := by omega
    rcases h with rfl | rfl | rfl | rfl | rfl | rfl | rfl | rfl <;> simp [hPfx]
  go_enter Try.func14, Try.ntmps14
  go_wp2_with fail
  refine (zzPrefix_hit i hi w).mono ?_
  rintro e w1 ⟨A, rfl, hat, hk⟩
  have HK := Lib.hid hk
  have HL := Lib.hid hlen
  clear hk hlen
  go_wp2_with fail
  refine (copied_any w1 A _ _ hat HL.out).mono ?_
  rintro e w2 ⟨v, rfl, hown, hk⟩
  obtain ⟨A1, c1, rfl, _, _, hat1, _⟩ := own_form hown
  have HK1 := Lib.hid hk
  clear hk hown
  go_wp2_with fail
  go_ret2
  exact ⟨A1, c1, rfl, hat1, HK.out.none HK1.out⟩

theorem implPrefix_miss (t : ByteArray) (ht : ∀ x ∈ pfxTab, x.1 ≠ t) (w : World) : Calls Try.prog 14 #[.string t] w fun e w' => ∃ A c, e = .returned (.tuple #[.slice A 0 c, .bool false]) ∧ Kept NoBlk w w' := by
  have HT := Lib.hid ht
  clear ht
  go_enter Try.func14, Try.ntmps14
  go_wp2_with fail
  refine (zzPrefix_miss t HT.out w).mono ?_
  rintro e w1 ⟨rfl, hk⟩
  have HK := Lib.hid hk
  clear hk
  go_wp2_with fail
  refine (copied_any w1 none 0 [] (BytesAt.nil _ _) (by simp)).mono ?_
  rintro e w2 ⟨v, rfl, hown, hk⟩
  obtain ⟨A1, c1, rfl, _, _, hat1, _⟩ := own_form hown
  have HK1 := Lib.hid hk
  clear hk hown
  go_wp2_with fail
  go_ret2
  exact ⟨A1, c1, rfl, HK.out.none HK1.out⟩

theorem zzHashSize_name (i : Nat) (hi : i < 8) (w : World) : Calls Try.prog 22 #[.string (hName i)] w fun e w' => e = .returned (.int .i64 (hSize i)) ∧ w = w' := by
  go_enter Try.func22, Try.ntmps22
  go_wp2_with fail
  refine (hashSize_name i hi w).mono ?_
  rintro e w1 ⟨rfl, rfl⟩
  go_wp2_with fail
  go_ret
  exact ⟨rfl, rfl⟩
theorem zzHashSize_miss (t : ByteArray) (ht : ∀ x ∈ pfxTab, x.1 ≠ t) (w : World) : Calls Try.prog 22 #[.string t] w fun e w' => e = .returned (.int .i64 (-1)) ∧ w = w' := by
  have HT := Lib.hid ht
  clear ht
  go_enter Try.func22, Try.ntmps22
  go_wp2_with fail
  refine (hashSize_miss t HT.out w).mono ?_
  rintro e w1 ⟨rfl, rfl⟩
  go_wp2_with fail
  go_ret
  exact ⟨rfl, rfl⟩

theorem implHashSize_name (i : Nat) (hi : i < 8) (w : World) : Calls Try.prog 17 #[.string (hName i)] w fun e w' => e = .returned (.int .i64 (hSize i)) ∧ w = w' := by
  go_enter Try.func17, Try.ntmps17
  go_wp2_with fail
  refine (zzHashSize_name i hi w).mono ?_
  rintro e w1 ⟨rfl, rfl⟩
  go_wp2_with fail
  go_ret
  exact ⟨rfl, rfl⟩
theorem implHashSize_miss (t : ByteArray) (ht : ∀ x ∈ pfxTab, x.1 ≠ t) (w : World) : Calls Try.prog 17 #[.string t] w fun e w' => e = .returned (.int .i64 (-1)) ∧ w = w' := by
  have HT := Lib.hid ht
  clear ht
  go_enter Try.func17, Try.ntmps17
  go_wp2_with fail
  refine (zzHashSize_miss t HT.out w).mono ?_
  rintro e w1 ⟨rfl, rfl⟩
  go_wp2_with fail
  go_ret
  exact ⟨rfl, rfl⟩

end Go.Proofs.Ytcjjcghkokgjfaa
