/-
  laws.long: whether pieces of bytes have more than 65536 bytes in all.
-/
import Derived.Test.YtgkfnmmajehobaaBytes
namespace Go.Proofs.Ytgkfnmmajehobaa
open Go.RowKit

/-- A piece of bytes as a slice: its address, its length, its capacity. -/
abbrev Piece : Type := Option Addr × Nat × Nat
def Piece.val (p : Piece) : Value := .slice p.1 p.2.1 p.2.2
def lensOf (ps : List Piece) : Nat := (ps.map fun p => p.2.1).sum

theorem lensOf_take_succ (ps : List Piece) (k : Nat) (h : k < ps.length) : lensOf (ps.take (k + 1)) = lensOf (ps.take k) + ps[k].2.1 := by
  unfold lensOf
  rw [List.take_succ_eq_append_getElem h, List.map_append, List.sum_append]
  simp
theorem lensOf_take_le (ps : List Piece) (k : Nat) : lensOf (ps.take k) ≤ lensOf ps := by
  have h := congrArg lensOf (List.take_append_drop k ps)
  unfold lensOf at *
  rw [List.map_append, List.sum_append] at h
  omega

/-- long, where no piece is longer than 2^31 - 1. -/
theorem long_any (g : Nat) (ps : List Piece) (w : World) (hg : At w (some ⟨g, 0, none⟩) (ps.map Piece.val)) (hn : ps.length ≤ 1000) (hl : ∀ p ∈ ps, p.2.1 ≤ 2147483647) :
    Calls Try.prog 4 #[.slice (some ⟨g, 0, none⟩) ps.length ps.length] w fun e w' => e = .returned (.bool (decide (65536 < lensOf ps))) ∧ w = w' := by
  go_enter Try.func4, Try.ntmps4
  go_wp2
  go_loop [3, 8] (fun n i => ∃ k : Nat, k ≤ ps.length ∧ i = .int .i64 k ∧ n = .int .i64 (lensOf (ps.take k) : Nat) ∧ lensOf (ps.take k) ≤ 65536) (fun _ i => ps.length - (intOf i).toNat)
  case atStart => exact ⟨0, Nat.zero_le _, rfl, by simp [lensOf], by simp [lensOf]⟩
  case round =>
    obtain ⟨k, hk, rfl, rfl, hs⟩ := hrel
    by_cases hlt : k < ps.length
    · obtain ⟨b, off, e, _, hc⟩ := hg.at_ (k := k) (by simpa using hlt)
      obtain ⟨p, hp⟩ : ∃ p, p = ps[k] := ⟨_, rfl⟩
      cases e
      have hcell : w.cell? ⟨g, k, none⟩ = some (.slice p.1 p.2.1 p.2.2) := by
        have := hc k (Piece.val p) (by rw [List.getElem?_map, List.getElem?_eq_getElem hlt, hp]; rfl)
        rw [Nat.zero_add] at this
        exact this
      have hpl := hl p (by rw [hp]; exact List.getElem_mem hlt)
      have hsum := lensOf_take_succ ps k hlt
      rw [← hp] at hsum
      have hall := lensOf_take_le ps (k + 1)
      have HS := Lib.hid hsum
      clear hsum hc hp
      go_wp2
      · go_ret
        have h := HS.out
        exact ⟨by rw [decide_eq_true (by omega)]; rfl, rfl⟩
      · go_round
        case rel =>
          have h := HS.out
          exact ⟨k + 1, by omega, by go_num, by rw [h]; go_num, by omega⟩
        case measure => simp [intOf]; omega
    · obtain rfl : k = ps.length := by omega
      rw [List.take_of_length_le (Nat.le_refl _)] at *
      go_wp2
      go_ret
      exact ⟨by rw [decide_eq_false (by omega)]; rfl, rfl⟩

end Go.Proofs.Ytgkfnmmajehobaa
