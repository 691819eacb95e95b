/-
  rsa.ErrMessageTooLong in its variable.
-/
import Derived.Test.YtmheoenieaemmaaDoorProg
import Derived.Test.YtmheoenieaemmaaDoorGj
namespace Go.Proofs.YtmheoenieaemmaaDoor
open Go.RowKit

/-- The listed error's variable. -/
def TooLong (w : World) (ea : Addr) : Prop := w.cell? ⟨0, 0, none⟩ = some (.iface 148 (.pointer (some ea)))
theorem TooLong.still {w w' : World} {ea : Addr} (h : TooLong w ea) (k : Kept NoBlk w w') : TooLong w' ea := (k.cell (World.block_lt_of_cell? _ _ h) (fun e => e)).trans h

end Go.Proofs.YtmheoenieaemmaaDoor
