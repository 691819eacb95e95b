/-
  The walks of FnEncode15Bare and FnEncode15.
-/
import Derived.Test.YtdmpiecdpdknaaaGreatDoorGn
import Derived.Test.YtdmpiecdpdknaaaGreatDoorGm
import Derived.Test.YtdmpiecdpdknaaaGreatDoorGp
namespace Go.Proofs.YtdmpiecdpdknaaaGreatDoor
open Go.RowKit

theorem w64' (n : Int) (h : -9223372036854775808 ≤ n ∧ n ≤ 9223372036854775807) : wrap64 n = n := by unfold wrap64; omega

end Go.Proofs.YtdmpiecdpdknaaaGreatDoor
