/-
  New hashes (printed by gen_made.py).
-/
import Derived.Test.YtgkfnmmajehobaaShaH
import Derived.Test.YtgkfnmmajehobaaOwnH
import Derived.Deep.RegionHeld3
namespace Go.Proofs.Ytgkfnmmajehobaa
open Go.RowKit

/-- The own hash's size. -/
def ownN (s b : Int) : Nat := if s < 1 ∨ 16 < s ∨ b < s ∨ 32 < b then 1 else s.toNat
theorem ownN_le (s b : Int) : 1 ≤ ownN s b ∧ ownN s b ≤ 16 := by
  unfold ownN
  split <;> omega
theorem replicate_B (n : Nat) : ((List.replicate n (0 : UInt8)).map B).toArray = zeroRow n := by
  first | rfl | simp [zeroRow, B]
theorem freshTail2 (k s b : Int) (n : Nat) (nv : Int) (hnv : nv = (n : Int)) (bv : Value) (hn : n ≤ 16) (w : World) :
    Calls Try.prog 15 #[.pointer (some ⟨w.heap.size + 1, 0, none⟩)]
      (((w.alloc (.cells #[.int .i64 k, .int .i64 s, .int .i64 b] 23)).alloc (.cells #[.int .i64 nv, bv, .int .i64 0, .slice (some ⟨w.heap.size + 1 + 1, 0, none⟩) n n] 56)).alloc (.cells (zeroRow n) 5))
      fun e w' => e = .returned (.tuple #[]) ∧ OwnAt w' (w.heap.size + 1) (w.heap.size + 1 + 1) n bv (0, ownInit n) ∧ Kept NoBlk w w' := by
  subst hnv
  have s1 : (w.alloc (.cells #[.int .i64 k, .int .i64 s, .int .i64 b] 23)).heap.size = w.heap.size + 1 := by simp
  have b1 := Blk.new (w.alloc (.cells #[.int .i64 k, .int .i64 s, .int .i64 b] 23)) 56 #[.int .i64 (n : Int), bv, .int .i64 0, .slice (some ⟨w.heap.size + 1 + 1, 0, none⟩) n n]
  rw [s1] at b1
  obtain ⟨w1, hw1⟩ : ∃ w1, (w.alloc (.cells #[.int .i64 k, .int .i64 s, .int .i64 b] 23)).alloc (.cells #[.int .i64 (n : Int), bv, .int .i64 0, .slice (some ⟨w.heap.size + 1 + 1, 0, none⟩) n n] 56) = w1 := ⟨_, rfl⟩
  have s2 : w1.heap.size = w.heap.size + 1 + 1 := by rw [← hw1]; simp
  have k1 : Kept NoBlk w w1 := by rw [← hw1]; exact ((Kept.refl _ w).alloc _).alloc _
  rw [hw1] at b1 ⊢
  have b2 := b1.alloc (.cells (zeroRow n) 5)
  have r2 := Blk.new w1 5 (zeroRow n)
  rw [s2] at r2
  refine (ownReset_all (w.heap.size + 1) (w.heap.size + 1 + 1) n bv (.int .i64 0) (List.replicate n 0) _ b2 (by rw [replicate_B]; exact r2) List.length_replicate hn).mono ?_
  rintro e w' ⟨rfl, hb, hk⟩
  exact ⟨rfl, hb, (k1.alloc _).step hk (fun i hi e => by unfold Two at e; omega)⟩

set_option maxRecDepth 20000 in
theorem fresh2_any (k s b : Int) (w : World) (_hk : -9223372036854775808 ≤ s ∧ s ≤ 9223372036854775807) :
    Calls Try.prog 12 #[.agg #[.int .i64 k, .int .i64 s, .int .i64 b]] w fun e w' => e = .returned (.pointer (some ⟨w.heap.size + 1, 0, none⟩)) ∧ (∃ bv, OwnAt w' (w.heap.size + 1) (w.heap.size + 1 + 1) (ownN s b) bv (0, ownInit (ownN s b))) ∧ Kept NoBlk w w' := by
  unfold ownN
  by_cases h2 : s < 1 ∨ 16 < s ∨ b < s ∨ 32 < b
  · rw [if_pos h2]
    have hmk1 : ∀ w' : World, (Instr.makeSlice 24 (.int .i64 1) (.int .i64 1)).run Try.prog w' = .ok (.slice (some ⟨w'.heap.size, 0, none⟩) 1 1) (w'.alloc (.cells (zeroRow 1) 5)) := fun w' => make_bytes w' 1 (by omega)
    have HT := Lib.hid (freshTail2 k s b 1 1 rfl (.int .i64 16) (by decide) w)
    have hcase : s < 1 ∨ (¬ s < 1 ∧ 16 < s) ∨ (¬ s < 1 ∧ ¬ 16 < s ∧ b < s) ∨ (¬ s < 1 ∧ ¬ 16 < s ∧ ¬ b < s ∧ 32 < b) := by omega
    clear h2
    rcases hcase with a1 | ⟨a1, a2⟩ | ⟨a1, a2, a3⟩ | ⟨a1, a2, a3, a4⟩
    all_goals
      go_enter Try.func12, Try.ntmps12
      go_wp2_with fail
      refine HT.out.mono ?_
      rintro e w1 ⟨rfl, h1, k1⟩
      have FIN := Lib.hid (And.intro h1 k1)
      clear h1 k1 HT
      go_wp2_with fail
      go_ret
      exact ⟨rfl, ⟨_, FIN.out.1⟩, FIN.out.2⟩
  · rw [if_neg h2]
    have a1 : ¬ s < 1 := by omega
    have a2 : ¬ 16 < s := by omega
    have a3 : ¬ b < s := by omega
    have a4 : ¬ 32 < b := by omega
    have a5 : s = (s.toNat : Int) := by omega
    obtain ⟨n, hn⟩ : ∃ n, s.toNat = n := ⟨_, rfl⟩
    rw [hn] at a5 ⊢
    have hmk1 : ∀ w' : World, (Instr.makeSlice 24 (.int .i64 s) (.int .i64 s)).run Try.prog w' = .ok (.slice (some ⟨w'.heap.size, 0, none⟩) n n) (w'.alloc (.cells (zeroRow n) 5)) := by
      rw [a5]; exact fun w' => make_bytes w' n (by omega)
    have HT := Lib.hid (freshTail2 k s b n s a5 (.int .i64 b) (by omega) w)
    clear h2 a5 hn
    go_enter Try.func12, Try.ntmps12
    go_wp2_with fail
    refine HT.out.mono ?_
    rintro e w1 ⟨rfl, h1, k1⟩
    have FIN := Lib.hid (And.intro h1 k1)
    clear h1 k1 HT
    go_wp2_with fail
    go_ret
    exact ⟨rfl, ⟨_, FIN.out.1⟩, FIN.out.2⟩


theorem madeSha_any (s b : Int) (ks : List Int) (w : World) :
    Calls Try.prog 9 #[.agg #[.int .i64 1, .int .i64 s, .int .i64 b]] w fun e w' => ∃ g, e = .returned (.iface 38 (.pointer (some ⟨g, 0, none⟩))) ∧ w.heap.size ≤ g ∧ ShaAt w' g ks shaIV [] ∧ Kept NoBlk w w' := by
  obtain ⟨w0, hw0⟩ : ∃ w0, w.alloc (.cells #[.int .i64 1, .int .i64 s, .int .i64 b] 23) = w0 := ⟨_, rfl⟩
  have hb := Blk.new w 23 #[.int .i64 1, .int .i64 s, .int .i64 b]
  rw [hw0] at hb
  have c0 : w0.cell? ⟨w.heap.size, 0, none⟩ = some (.int .i64 1) := hb.cellIs rfl
  have c1 : w0.cell? ⟨w.heap.size, 1, none⟩ = some (.int .i64 s) := hb.cellIs rfl
  have c2 : w0.cell? ⟨w.heap.size, 2, none⟩ = some (.int .i64 b) := hb.cellIs rfl
  have k0 : Kept NoBlk w w0 := by rw [← hw0]; exact (Kept.refl _ w).alloc _
  have hs0 := k0.size
  have K0 := Lib.hid k0
  clear hb k0
  have HN := Lib.hid (shaNew_any ks w0)
  go_enter Try.func9, Try.ntmps9
  go_wp2_with fail
  refine HN.out.mono ?_
  rintro e w1 ⟨rfl, h2, k1⟩
  have FIN := Lib.hid (And.intro h2 (K0.out.none k1))
  clear h2 k1 HN
  go_wp2_with fail
  go_ret
  exact ⟨_, rfl, hs0, FIN.out⟩

theorem madeOwn_any (k s b : Int) (w : World) (_hk : -9223372036854775808 ≤ s ∧ s ≤ 9223372036854775807) (hk1 : k ≠ 1) :
    Calls Try.prog 9 #[.agg #[.int .i64 k, .int .i64 s, .int .i64 b]] w fun e w' => ∃ g r bv, e = .returned (.iface 40 (.pointer (some ⟨g, 0, none⟩))) ∧ w.heap.size ≤ g ∧ w.heap.size ≤ r ∧ OwnAt w' g r (ownN s b) bv (0, ownInit (ownN s b)) ∧ Kept NoBlk w w' := by
  obtain ⟨w0, hw0⟩ : ∃ w0, w.alloc (.cells #[.int .i64 k, .int .i64 s, .int .i64 b] 23) = w0 := ⟨_, rfl⟩
  have hb := Blk.new w 23 #[.int .i64 k, .int .i64 s, .int .i64 b]
  rw [hw0] at hb
  have c0 : w0.cell? ⟨w.heap.size, 0, none⟩ = some (.int .i64 k) := hb.cellIs rfl
  have c1 : w0.cell? ⟨w.heap.size, 1, none⟩ = some (.int .i64 s) := hb.cellIs rfl
  have c2 : w0.cell? ⟨w.heap.size, 2, none⟩ = some (.int .i64 b) := hb.cellIs rfl
  have k0 : Kept NoBlk w w0 := by rw [← hw0]; exact (Kept.refl _ w).alloc _
  have hs0 := k0.size
  have K0 := Lib.hid k0
  clear hb k0
  have HF := Lib.hid (fresh2_any k s b w0 _hk)
  have e1 : (k == 1) = false := by rw [beq_eq_false_iff_ne]; exact hk1
  clear hk1
  generalize ownN s b = n at *
  go_enter Try.func9, Try.ntmps9
  go_wp2_with fail
  refine HF.out.mono ?_
  rintro e w1 ⟨rfl, ⟨bv, h1⟩, k1⟩
  have FIN := Lib.hid (And.intro h1 (K0.out.none k1))
  clear h1 k1 HF
  go_wp2_with fail
  go_ret
  exact ⟨_, _, bv, rfl, by omega, by omega, FIN.out⟩

end Go.Proofs.Ytgkfnmmajehobaa
