/-
  The walk of FnPrefix.
-/
import Derived.Test.YtcjjcghkokgjfaaSpecPrefix
import Derived.Test.YtcjjcghkokgjfaaBeyond
namespace Go.Proofs.Ytcjjcghkokgjfaa
open Go.RowKit

theorem tab_heads : (pfxTab.all fun x => x.1.data.toList.head? != some 120) = true := by decide +kernel

/-- A name that begins with x is none of the table's. -/
theorem x_name (s : ByteArray) : ∀ x ∈ pfxTab, x.1 ≠ (⟨#[120]⟩ ++ s : ByteArray) := by
  intro x hx e
  have h := List.all_eq_true.1 tab_heads x hx
  rw [bne_iff_ne] at h
  apply h
  rw [e]
  simp [ByteArray.data_append]

theorem fnPrefix_walk (a : Int) (s : ByteArray) (w : World) (ha0 : 0 ≤ a) (ha1 : a ≤ 255) (hs : s.size ≤ maxLen) :
    Calls Try.prog 6 #[.int .u8 a, .string s] w fun e w' => e = .returned (.bool true) ∧ Kept NoBlk w w' := by
  unfold maxLen at hs
  by_cases h1 : 2147483647 < s.size
  · go_enter Try.func6, Try.ntmps6
    go_wp2_with fail
    go_ret
    exact ⟨rfl, Kept.refl _ _⟩
  have hbey := beyond_any w.heap.size [s.size] (w.alloc (.cells #[.int .i64 s.size] 3))
    (at_new w 3 ([s.size].map fun (n : Nat) => Value.int .i64 (n : Int))) (by simp)
  by_cases h3 : 1048576 < s.size
  · rw [show ([s.size].any fun n => decide (1048576 < n)) = true by simpa using h3] at hbey
    have HB := Lib.hid hbey
    clear hbey
    go_enter Try.func6, Try.ntmps6
    go_wp2_with fail
    refine HB.out.mono ?_
    rintro e w' ⟨rfl, rfl⟩
    go_wp2_with fail
    go_ret
    exact ⟨rfl, (Kept.refl _ _).alloc _⟩
  rw [show ([s.size].any fun n => decide (1048576 < n)) = false by simp; omega] at hbey
  have HB := Lib.hid hbey
  clear hbey
  obtain ⟨n, rfl⟩ := Int.eq_ofNat_of_zero_le ha0
  go_enter Try.func6, Try.ntmps6
  go_wp2_with fail
  refine HB.out.mono ?_
  rintro e w' ⟨rfl, rfl⟩
  go_wp2_with fail
  refine (names_any _).mono ?_
  rintro e w1 ⟨g, rfl, hc, hk⟩
  have HK1 := Lib.hid hk
  have hi : n % 8 < 8 := Nat.mod_lt _ (by decide)
  obtain ⟨i, hin⟩ : ∃ i, i = n % 8 := ⟨_, rfl⟩
  rw [← hin] at hi
  have hcell : w1.cell? ⟨g, n % 8, none⟩ = some (.string (hName i)) := by rw [← hin]; exact hc i hi
  have HIN := Lib.hid hin
  clear hc hk hin
  go_wp2_with fail
  refine (implPrefix_hit i hi w1).mono ?_
  rintro e w2 ⟨A1, c1, rfl, hat1, hk⟩
  have HK2 := Lib.hid hk
  have HA1 := Lib.hid hat1
  clear hk hat1
  go_wp2_with fail
  refine (specPrefix_name i hi w2).mono ?_
  rintro e w3 ⟨A2, c2, rfl, hat2, _, _, hk⟩
  have HK3 := Lib.hid hk
  have HA2 := Lib.hid hat2
  clear hk hat2
  have hx := x_name s
  have HX := Lib.hid hx
  clear hx
  go_wp2_with fail
  refine (implPrefix_miss _ HX.out w3).mono ?_
  rintro e w4 ⟨A3, c3, rfl, hk⟩
  have HK4 := Lib.hid hk
  clear hk
  go_wp2_with fail
  refine (same_any w4 A1 A2 c1 c2 _ _ ((HA1.out.still HK3.out).still HK4.out) (HA2.out.still HK4.out)).mono ?_
  rintro e w' ⟨rfl, rfl⟩
  rw [beq_self_eq_true]
  go_wp2_with fail
  refine (implHashSize_name i hi _).mono ?_
  rintro e w' ⟨rfl, rfl⟩
  go_wp2_with fail
  refine (implHashSize_miss _ HX.out _).mono ?_
  rintro e w' ⟨rfl, rfl⟩
  go_wp2_with fail
  go_ret
  exact ⟨rfl, (((((Kept.refl _ _).alloc _).none HK1.out).none HK2.out).none HK3.out).none HK4.out⟩

end Go.Proofs.Ytcjjcghkokgjfaa
