/-
  The errors' variables of package io, out of what the rows list.
-/
import Derived.Test.YtcjjcghkokgjfaaDoorErr
import Derived.Test.YtcjjcghkokgjfaaDoorReadFull
namespace Go.Proofs.YtcjjcghkokgjfaaDoor
open Go.RowKit

theorem globs_of_laid {W : World} (h : laidMetH Tryd.prog Rows.fnNonZeroRow.laid W) :
    ∃ ea ua, Globs W ea ua ∧ (1 < W.heap.size ∧ 2 < W.heap.size) := by
  rw [MakeChecks.laidMetH_plain _ _ _ (by kernel_rfl)] at h
  obtain ⟨ps, ⟨g0, t0, cs0, f0, p0, q0, hg0, ht0, hv0, hd0, ⟨g1, t1, cs1, f1, p1, q1, hg1, ht1, hv1, hd1, ⟨g2, t2, cs2, f2, p2, q2, hg2, ht2, hv2, hd2, _, e2⟩, e1⟩, e0⟩, _, hrows⟩ := h
  subst e2 e1 e0
  have E1 := Option.some.inj ((show _ = some 1 by kernel_rfl).symm.trans hg1)
  have E2 := Option.some.inj ((show _ = some 2 by kernel_rfl).symm.trans hg2)
  subst E1 E2
  have T1 := Option.some.inj ((show (Tryd.prog.globals[1]?).map (·.type) = some 41 by kernel_rfl).symm.trans ht1)
  have T2 := Option.some.inj ((show (Tryd.prog.globals[2]?).map (·.type) = some 41 by kernel_rfl).symm.trans ht2)
  subst T1 T2
  have z1 : 0 < cs1.size := by
    rcases cs1 with ⟨l⟩
    cases l with
    | nil => simp at hd1; cases f1 <;> simp [DataW.trod, Tryd.underlying41] at hd1
    | cons a l => simp
  have z2 : 0 < cs2.size := by
    rcases cs2 with ⟨l⟩
    cases l with
    | nil => simp at hd2; cases f2 <;> simp [DataW.trod, Tryd.underlying41] at hd2
    | cons a l => simp
  obtain ⟨ea, hea⟩ := sent_of hg1 hv1 hd1 rfl (fun u v hc => (hrows 1 0 (by simp [MemPlace.row, z1])).2 u v hc)
  obtain ⟨ua, hua⟩ := sent_of hg2 hv2 hd2 rfl (fun u v hc => (hrows 2 0 (by simp [MemPlace.row, z2])).2 u v hc)
  exact ⟨ea, ua, ⟨hea, hua⟩, World.block_lt_of_cell? _ _ hea, World.block_lt_of_cell? _ _ hua⟩

end Go.Proofs.YtcjjcghkokgjfaaDoor
