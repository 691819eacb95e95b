/-
  DERIVED. GIVEN WITH THE SEED: THE CARDS: each row of YtdmpiecdpdknaaaDoorRows.lean that lists a variable, with what it lists TIED to the program's text (the seventh form; the later family's looks); each row that meets fmt, with fmt's text TOLD by the authors' own Lean function (tested against real Go, not proved from fmt's source: count such statements apart). THE CARD IS WHAT COUNTS. Prove the row's statement (the work); the ties are given (YtdmpiecdpdknaaaDoorTie.lean); close each card by the builder's one call (the guide's Derived/Test/ToyasCard.lean, 'card_holds'). Laid BY PROGRAM, IN A SANDBOX (cutbox-door.mjs). By AI agents, Wed Nov 11 2026. No macro, syntax, notation, axiom, sorry.
-/
import Derived.Test.YtdmpiecdpdknaaaDoorRows
import GoSem.ClaimSeven
namespace Go.Proofs.YtdmpiecdpdknaaaDoor
namespace Rows

/-- THE TIED CARD OF 'laws.FnRoads'. -/
def fnRoadsCard : Claim7 := { stood := { row := fnRoadsRow, standIns := [], harness := (true, "9607d9d86a5e223808e98ff909ae6c5d240fe5e63ed3009f12dbb6842f316203"), looks := false }, kinds := [], alts := [], laidByText := true, laidKinds := [.sentinel], laidTests := true, laidLooks := .later }
def FnRoadsCardSaid : Prop := Claim7.holds Tryd.pinned (.plain (OpenSpec.ofChange fnRoadsSpec)) fnRoadsCard

/-- THE TIED CARD OF 'laws.FnBack'. -/
def fnBackCard : Claim7 := { stood := { row := fnBackRow, standIns := [], harness := (true, "9607d9d86a5e223808e98ff909ae6c5d240fe5e63ed3009f12dbb6842f316203"), looks := false }, kinds := [], alts := [], laidByText := true, laidKinds := [.sentinel], laidTests := true, laidLooks := .later }
def FnBackCardSaid : Prop := Claim7.holds Tryd.pinned (.plain (OpenSpec.ofChange fnBackSpec)) fnBackCard

/-- THE TIED CARD OF 'laws.FnForth'. -/
def fnForthCard : Claim7 := { stood := { row := fnForthRow, standIns := [], harness := (true, "9607d9d86a5e223808e98ff909ae6c5d240fe5e63ed3009f12dbb6842f316203"), looks := false }, kinds := [], alts := [], laidByText := true, laidKinds := [.sentinel], laidTests := true, laidLooks := .later }
def FnForthCardSaid : Prop := Claim7.holds Tryd.pinned (.plain (OpenSpec.ofChange fnForthSpec)) fnForthCard

/-- THE TIED CARD OF 'laws.FnPrecomputed'. -/
def fnPrecomputedCard : Claim7 := { stood := { row := fnPrecomputedRow, standIns := [], harness := (true, "9607d9d86a5e223808e98ff909ae6c5d240fe5e63ed3009f12dbb6842f316203"), looks := false }, kinds := [], alts := [], laidByText := true, laidKinds := [.sentinel], laidTests := true, laidLooks := .later }
def FnPrecomputedCardSaid : Prop := Claim7.holds Tryd.pinned (.plain (OpenSpec.ofChange fnPrecomputedSpec)) fnPrecomputedCard

/-- THE SECOND FORM's CARD OF 'laws.FnRoads'. -/
def fnRoadsUptoCard : Claim7 := { stood := { row := fnRoadsUptoRow, standIns := [], harness := (true, "9607d9d86a5e223808e98ff909ae6c5d240fe5e63ed3009f12dbb6842f316203"), looks := false }, kinds := [], alts := [], laidByText := true, laidKinds := [.sentinel], laidTests := true, laidLooks := .later }
def FnRoadsUptoCardSaid : Prop := Claim7.holds Tryd.pinned (.plain (OpenSpec.upto fnRoadsSpec)) fnRoadsUptoCard

/-- THE SECOND FORM's CARD OF 'laws.FnBack'. -/
def fnBackUptoCard : Claim7 := { stood := { row := fnBackUptoRow, standIns := [], harness := (true, "9607d9d86a5e223808e98ff909ae6c5d240fe5e63ed3009f12dbb6842f316203"), looks := false }, kinds := [], alts := [], laidByText := true, laidKinds := [.sentinel], laidTests := true, laidLooks := .later }
def FnBackUptoCardSaid : Prop := Claim7.holds Tryd.pinned (.plain (OpenSpec.upto fnBackSpec)) fnBackUptoCard

/-- THE SECOND FORM's CARD OF 'laws.FnForth'. -/
def fnForthUptoCard : Claim7 := { stood := { row := fnForthUptoRow, standIns := [], harness := (true, "9607d9d86a5e223808e98ff909ae6c5d240fe5e63ed3009f12dbb6842f316203"), looks := false }, kinds := [], alts := [], laidByText := true, laidKinds := [.sentinel], laidTests := true, laidLooks := .later }
def FnForthUptoCardSaid : Prop := Claim7.holds Tryd.pinned (.plain (OpenSpec.upto fnForthSpec)) fnForthUptoCard

/-- THE SECOND FORM's CARD OF 'laws.FnPrecomputed'. -/
def fnPrecomputedUptoCard : Claim7 := { stood := { row := fnPrecomputedUptoRow, standIns := [], harness := (true, "9607d9d86a5e223808e98ff909ae6c5d240fe5e63ed3009f12dbb6842f316203"), looks := false }, kinds := [], alts := [], laidByText := true, laidKinds := [.sentinel], laidTests := true, laidLooks := .later }
def FnPrecomputedUptoCardSaid : Prop := Claim7.holds Tryd.pinned (.plain (OpenSpec.upto fnPrecomputedSpec)) fnPrecomputedUptoCard
end Rows
end Go.Proofs.YtdmpiecdpdknaaaDoor
