/-
  laws.beyond: whether some size is above 2^20.
-/
import Derived.Test.YtdmpiecdpdknaaaDoorGj
namespace Go.Proofs.YtdmpiecdpdknaaaDoor
open Go.RowKit

theorem beyond_any (g : Nat) (ns : List Nat) (w : World) (hg : At w (some ⟨g, 0, none⟩) (ns.map fun (n : Nat) => Value.int .i64 (n : Int))) (hn : ns.length ≤ 1000) :
    Calls Tryd.prog 7 #[.slice (some ⟨g, 0, none⟩) ns.length ns.length] w fun e w' => e = .returned (.bool (ns.any fun n => decide (1048576 < n))) ∧ w = w' := by
  go_enter Tryd.func7, Tryd.ntmps7
  go_wp2
  go_loop [7] (fun i => ∃ k : Nat, k ≤ ns.length ∧ i = .int .i64 k ∧ ((ns.take k).any fun n => decide (1048576 < n)) = false) (fun i => ns.length - (intOf i).toNat)
  case atStart => exact ⟨0, Nat.zero_le _, rfl, by simp⟩
  case round =>
    obtain ⟨k, hk, rfl, hs⟩ := hrel
    have HS := Lib.hid hs
    clear hs
    by_cases hlt : k < ns.length
    · obtain ⟨b, off, e, _, hc⟩ := hg.at_ (k := k) (by simpa using hlt)
      obtain ⟨p, hp⟩ : ∃ p, p = ns[k] := ⟨_, rfl⟩
      cases e
      have hcell : w.cell? ⟨g, k, none⟩ = some (.int .i64 (p : Int)) := by
        have := hc k (.int .i64 (p : Int)) (by rw [List.getElem?_map, List.getElem?_eq_getElem hlt, hp]; rfl)
        rw [Nat.zero_add] at this
        exact this
      have HP := Lib.hid hp
      clear hc hp
      go_wp2
      · go_ret
        have hb : (ns.any fun n => decide (1048576 < n)) = true := List.any_eq_true.2 ⟨p, by rw [HP.out]; exact List.getElem_mem hlt, decide_eq_true (by omega)⟩
        exact ⟨by rw [hb]; rfl, rfl⟩
      · go_round
        case rel =>
          refine ⟨k + 1, by omega, by go_num, ?_⟩
          rw [List.take_succ_eq_append_getElem hlt, List.any_append, HS.out, ← HP.out]
          simp
          omega
        case measure => simp [intOf]; omega
    · obtain rfl : k = ns.length := by omega
      have hb := HS.out
      rw [List.take_of_length_le (Nat.le_refl _)] at hb
      have HB := Lib.hid hb
      clear hb
      go_wp2
      go_ret
      exact ⟨by rw [HB.out]; rfl, rfl⟩

end Go.Proofs.YtdmpiecdpdknaaaDoor
