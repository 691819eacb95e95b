/-
  The numbers that sha256._K holds: sixty-four of uint32, whatever they are.
-/
import Derived.Test.YtgkfnmmajehobaaMaskLaw
import GoSem.Claims
import Derived.KernelRfl
namespace Go.Proofs.Ytgkfnmmajehobaa
open Go.RowKit

set_option maxRecDepth 20000 in
theorem kAt_shaped (W : World) (h : W.ShapedOpen Try.prog) : ∃ ks, KAt W ks := by
  have h0 : ((begin Try.prog (fun _ _ => 0) default).world.heap[0]?).bind Obj.row? = some (#[.int .u32 0, .int .u32 0, .int .u32 0, .int .u32 0, .int .u32 0, .int .u32 0, .int .u32 0, .int .u32 0, .int .u32 0, .int .u32 0, .int .u32 0, .int .u32 0, .int .u32 0, .int .u32 0, .int .u32 0, .int .u32 0, .int .u32 0, .int .u32 0, .int .u32 0, .int .u32 0, .int .u32 0, .int .u32 0, .int .u32 0, .int .u32 0, .int .u32 0, .int .u32 0, .int .u32 0, .int .u32 0, .int .u32 0, .int .u32 0, .int .u32 0, .int .u32 0, .int .u32 0, .int .u32 0, .int .u32 0, .int .u32 0, .int .u32 0, .int .u32 0, .int .u32 0, .int .u32 0, .int .u32 0, .int .u32 0, .int .u32 0, .int .u32 0, .int .u32 0, .int .u32 0, .int .u32 0, .int .u32 0, .int .u32 0, .int .u32 0, .int .u32 0, .int .u32 0, .int .u32 0, .int .u32 0, .int .u32 0, .int .u32 0, .int .u32 0, .int .u32 0, .int .u32 0, .int .u32 0, .int .u32 0, .int .u32 0, .int .u32 0, .int .u32 0], 79) := by kernel_rfl
  have hc : Try.prog.cellTypes Try.prog.depth 79 = some (List.replicate 64 49) := by kernel_rfl
  have hg : 0 < Try.prog.globals.size := of_decide_eq_true (by kernel_rfl)
  have hbd : Try.prog.buildable 79 = true := by kernel_rfl
  obtain ⟨cs, hh, hs, hr⟩ := h.1 0 _ _ hg h0
  obtain ⟨ts, hts, _, hall⟩ := hr hbd
  rw [hc] at hts
  cases hts
  have hsz : cs.size = 64 := hs
  have hcell : ∀ i, W.cell? ⟨0, i, none⟩ = cs[i]? := fun i => by simp [World.cell?, hh]
  have hint : ∀ (i : Nat) (v : Value), cs[i]? = some v → ∃ n, v = .int .u32 n := by
    intro i v hv
    obtain ⟨u, hu', hok⟩ := hall i v hv
    have : u = 49 := List.eq_of_mem_replicate (List.mem_of_getElem? hu')
    subst this
    unfold Cell.ok at hok
    rw [Try.underlying49] at hok
    cases v <;> simp at hok
    case int k' n => exact ⟨n, by rw [hok.1]⟩
  refine ⟨cs.toList.map intOf, ?_, by rw [List.length_map, Array.length_toList]; exact hsz, ?_⟩
  · rcases Nat.eq_zero_or_pos W.heap.size with h1 | h1
    · rw [Array.getElem?_eq_none (by omega)] at hh; cases hh
    · exact h1
  · intro i x hx
    rw [List.getElem?_map, Array.getElem?_toList] at hx
    rw [hcell]
    cases hv : cs[i]? with
    | none => rw [hv] at hx; cases hx
    | some v =>
      obtain ⟨n, rfl⟩ := hint i v hv
      rw [hv] at hx
      cases hx
      rfl

end Go.Proofs.Ytgkfnmmajehobaa
