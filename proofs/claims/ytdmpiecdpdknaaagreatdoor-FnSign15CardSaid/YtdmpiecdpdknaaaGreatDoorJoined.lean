/-
  spec.Joined: pieces of bytes, one behind the other.
-/
import Derived.Test.YtdmpiecdpdknaaaGreatDoorGj
namespace Go.Proofs.YtdmpiecdpdknaaaGreatDoor
open Go.RowKit

/-- A piece: its address, its capacity, its bytes. -/
abbrev BPiece : Type := Option Addr × Nat × List UInt8
def BPiece.val (p : BPiece) : Value := .slice p.1 p.2.2.length p.2.1
def joinOf (ps : List BPiece) : List UInt8 := ps.flatMap fun p => p.2.2

theorem joinOf_take_succ (ps : List BPiece) (k : Nat) (h : k < ps.length) : joinOf (ps.take (k + 1)) = joinOf (ps.take k) ++ ps[k].2.2 := by
  unfold joinOf
  rw [List.take_succ_eq_append_getElem h, List.flatMap_append]
  simp
theorem joinOf_take_le (ps : List BPiece) (k : Nat) : (joinOf (ps.take k)).length ≤ (joinOf ps).length := by
  have h := congrArg (fun l => (joinOf l).length) (List.take_append_drop k ps)
  unfold joinOf at *
  simp only [List.flatMap_append, List.length_append] at h
  omega

theorem joined_any (g : Nat) (ps : List BPiece) (w : World) (hg : At w (some ⟨g, 0, none⟩) (ps.map BPiece.val)) (hn : ps.length ≤ 1000) (hb : ∀ p ∈ ps, BytesAt w p.1 p.2.2) (hl : (joinOf ps).length ≤ 1099511627776) :
    Calls Tryz.prog 17 #[.slice (some ⟨g, 0, none⟩) ps.length ps.length] w (GivesBytes w.heap.size (joinOf ps) w) := by
  go_enter Tryz.func17, Tryz.ntmps17
  go_wp2
  have hmade : (w.alloc (Obj.cells #[] 5)).ownsRow w.heap.size 5 1 (.slice (some ⟨w.heap.size, 0, none⟩) 0 0) 0 [] := World.ownsRow_made w #[] 0 (Nat.le_refl _) (Nat.zero_le _) rfl
  go_loopw [3, 9] (fun v i wr => ∃ k : Nat, k ≤ ps.length ∧ i = .int .i64 k ∧ wr.ownsRow w.heap.size 5 1 v (joinOf (ps.take k)).length ((joinOf (ps.take k)).map B) ∧ Kept NoBlk w wr) (fun _ i _ => ps.length - (intOf i).toNat)
  case atStart => exact ⟨0, Nat.zero_le _, rfl, by simpa [joinOf] using hmade, (Kept.refl _ w).alloc _⟩
  case round =>
    obtain ⟨k, hk, rfl, hown, hkept⟩ := hrel
    have HK := Lib.hid hkept
    clear hmade hkept
    by_cases hlt : k < ps.length
    · obtain ⟨b, off, e, hbl, hc⟩ := hg.at_ (k := k) (by simpa using hlt)
      obtain ⟨p, hp⟩ : ∃ p, p = ps[k] := ⟨_, rfl⟩
      cases e
      have hcell : wr.cell? ⟨g, k, none⟩ = some (.slice p.1 p.2.2.length p.2.1) := by
        have := hc k (BPiece.val p) (by rw [List.getElem?_map, List.getElem?_eq_getElem hlt, hp]; rfl)
        rw [Nat.zero_add] at this
        exact (HK.out.cell (p := ⟨g, k, none⟩) hbl (fun e => e)).trans this
      have hsrc : BytesAt wr p.1 p.2.2 := (hb p (by rw [hp]; exact List.getElem_mem hlt)).still HK.out
      have hjs := joinOf_take_succ ps k hlt
      rw [← hp] at hjs
      have hle := joinOf_take_le ps (k + 1)
      rw [hjs, List.length_append] at hle
      have HJ := Lib.hid hjs
      clear hjs hp hc
      go_wp2_with (at_builtin; refine wpList_append_bytes _ rfl _ _ rfl w.heap.size _ (joinOf (ps.take k)) rfl hown p.1 p.2.1 _ p.2.2 rfl rfl hsrc (by omega) HK.out.size ?_; intro v' w1 hown1 hgrow)
      go_roundw
      case rel => exact ⟨k + 1, by omega, by go_num, by rw [HJ.out]; exact hown1, HK.out.grow hown (Nat.le_refl _) hgrow⟩
      case measure => simp [intOf]; omega
    · obtain rfl : k = ps.length := by omega
      rw [List.take_of_length_le (Nat.le_refl _)] at hown
      go_wp2
      go_ret
      exact ⟨_, rfl, hown, HK.out⟩

end Go.Proofs.YtdmpiecdpdknaaaGreatDoor
