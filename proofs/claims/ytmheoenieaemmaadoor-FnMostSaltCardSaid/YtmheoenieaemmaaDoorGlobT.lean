/-
  The listed error's variable (rsa.ErrMessageTooLong), out of what the rows list.
-/
import Derived.Test.YtmheoenieaemmaaDoorErr
import Derived.Test.YtmheoenieaemmaaDoorTooLong
namespace Go.Proofs.YtmheoenieaemmaaDoor
open Go.RowKit

set_option maxRecDepth 100000 in
theorem tooLong_of_laid {W : World} (h : laidMetH Tryd.prog Rows.fnEncode15Row.laid W) : ∃ ea, TooLong W ea := by
  rw [MakeChecks.laidMetH_plain _ _ _ (by kernel_rfl)] at h
  obtain ⟨ps, ⟨g0, t0, cs0, f0, p0, q0, hg0, ht0, hv0, hd0, _, e0⟩, _, hrows⟩ := h
  subst e0
  have E0 := Option.some.inj ((show _ = some 0 by kernel_rfl).symm.trans hg0)
  subst E0
  have T0 := Option.some.inj ((show (Tryd.prog.globals[0]?).map (·.type) = some 62 by kernel_rfl).symm.trans ht0)
  subst T0
  have z0 : 0 < cs0.size := by
    rcases cs0 with ⟨l⟩
    cases l with
    | nil => simp at hd0; cases f0 <;> simp [DataW.trod, Tryd.underlying62] at hd0
    | cons a l => simp
  obtain ⟨ea, hea⟩ := sent_of hg0 hv0 hd0 rfl (fun u v hc => (hrows 0 0 (by simp [MemPlace.row, z0])).2 u v hc)
  exact ⟨ea, hea⟩

end Go.Proofs.YtmheoenieaemmaaDoor
