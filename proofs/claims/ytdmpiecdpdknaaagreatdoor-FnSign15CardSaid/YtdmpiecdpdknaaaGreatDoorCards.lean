/-
  DERIVED. GIVEN WITH THE SEED: THE CARDS: each row of YtdmpiecdpdknaaaGreatDoorRows.lean that lists a variable, with what it lists TIED to the program's text (the seventh form; the later family's looks); each row that meets fmt, with fmt's text TOLD by the authors' own Lean function (tested against real Go, not proved from fmt's source: count such statements apart). THE CARD IS WHAT COUNTS. Prove the row's statement (the work); the ties are given (YtdmpiecdpdknaaaGreatDoorTie.lean); close each card by the builder's one call (the guide's Derived/Test/ToyasCard.lean, 'card_holds'). Laid BY PROGRAM, IN A SANDBOX (cutbox-door.mjs). By AI agents, Wed Nov 11 2026. No macro, syntax, notation, axiom, sorry.
-/
import Derived.Test.YtdmpiecdpdknaaaGreatDoorRows
import GoSem.ClaimSeven
namespace Go.Proofs.YtdmpiecdpdknaaaGreatDoor
namespace Rows

/-- THE TIED CARD OF 'laws.FnSign15'. -/
def fnSign15Card : Claim7 := { stood := { row := fnSign15Row, standIns := [], harness := (true, "9d0f0655048afde022b6d1defa62a03994fb70cc2fad5523a861fd488403199b"), looks := false }, kinds := [], alts := [], laidByText := true, laidKinds := [.sentinel, .sentinel, .sentinel], laidTests := true, laidLooks := .later }
def FnSign15CardSaid : Prop := Claim7.holds Tryz.pinned (.plain (OpenSpec.ofChange fnSign15Spec)) fnSign15Card

/-- THE SECOND FORM's CARD OF 'laws.FnSign15'. -/
def fnSign15UptoCard : Claim7 := { stood := { row := fnSign15UptoRow, standIns := [], harness := (true, "9d0f0655048afde022b6d1defa62a03994fb70cc2fad5523a861fd488403199b"), looks := false }, kinds := [], alts := [], laidByText := true, laidKinds := [.sentinel, .sentinel, .sentinel], laidTests := true, laidLooks := .later }
def FnSign15UptoCardSaid : Prop := Claim7.holds Tryz.pinned (.plain (OpenSpec.upto fnSign15Spec)) fnSign15UptoCard
end Rows
end Go.Proofs.YtdmpiecdpdknaaaGreatDoor
