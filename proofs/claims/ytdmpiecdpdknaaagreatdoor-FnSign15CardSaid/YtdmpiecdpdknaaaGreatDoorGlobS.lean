/-
  The listed errors' variables of FnSign15, out of what the rows list.
-/
import Derived.Test.YtdmpiecdpdknaaaGreatDoorErr
import Derived.Test.YtdmpiecdpdknaaaGreatDoorGo
namespace Go.Proofs.YtdmpiecdpdknaaaGreatDoor
open Go.RowKit

set_option maxRecDepth 100000 in
theorem signErrs_of_laid {W : World} (h : laidMetH Tryz.prog Rows.fnSign15Row.laid W) : ∃ ea ev, TooLong W ea ∧ VerErr W ev := by
  rw [MakeChecks.laidMetH_plain _ _ _ (by kernel_rfl)] at h
  obtain ⟨ps, ⟨g0, t0, cs0, f0, p0, q0, hg0, ht0, hv0, hd0, ⟨g1, t1, cs1, f1, p1, q1, hg1, ht1, hv1, hd1, ⟨g2, t2, cs2, f2, p2, q2, hg2, ht2, hv2, hd2, _, e2⟩, e1⟩, e0⟩, _, hrows⟩ := h
  subst e2 e1 e0
  have E0 := Option.some.inj ((show _ = some 1 by kernel_rfl).symm.trans hg0)
  have E2 := Option.some.inj ((show _ = some 0 by kernel_rfl).symm.trans hg2)
  subst E0 E2
  have T0 := Option.some.inj ((show (Tryz.prog.globals[1]?).map (·.type) = some 49 by kernel_rfl).symm.trans ht0)
  have T2 := Option.some.inj ((show (Tryz.prog.globals[0]?).map (·.type) = some 49 by kernel_rfl).symm.trans ht2)
  subst T0 T2
  have z0 : 0 < cs0.size := by
    rcases cs0 with ⟨l⟩
    cases l with
    | nil => simp at hd0; cases f0 <;> simp [DataW.trod, Tryz.underlying49] at hd0
    | cons a l => simp
  have z2 : 0 < cs2.size := by
    rcases cs2 with ⟨l⟩
    cases l with
    | nil => simp at hd2; cases f2 <;> simp [DataW.trod, Tryz.underlying49] at hd2
    | cons a l => simp
  obtain ⟨ea, hea⟩ := sent_of hg0 hv0 hd0 rfl (fun u v hc => (hrows 1 0 (by simp [MemPlace.row, z0])).2 u v hc)
  obtain ⟨ev, hev⟩ := sent_of hg2 hv2 hd2 rfl (fun u v hc => (hrows 0 0 (by simp [MemPlace.row, z2])).2 u v hc)
  exact ⟨ea, ev, hea, hev⟩

end Go.Proofs.YtdmpiecdpdknaaaGreatDoor
