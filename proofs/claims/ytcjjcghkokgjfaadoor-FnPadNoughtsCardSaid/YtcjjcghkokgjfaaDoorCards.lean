/-
  DERIVED. GIVEN WITH THE SEED: THE CARDS: each row of YtcjjcghkokgjfaaDoorRows.lean that lists a variable, with what it lists TIED to the program's text (the seventh form; the later family's looks); each row that meets fmt, with fmt's text TOLD by the authors' own Lean function (tested against real Go, not proved from fmt's source: count such statements apart). THE CARD IS WHAT COUNTS. Prove the row's statement (the work); the ties are given (YtcjjcghkokgjfaaDoorTie.lean); close each card by the builder's one call (the guide's Derived/Test/ToyasCard.lean, 'card_holds'). Laid BY PROGRAM, IN A SANDBOX (cutbox-door.mjs). By AI agents, Wed Nov 11 2026. No macro, syntax, notation, axiom, sorry.
-/
import Derived.Test.YtcjjcghkokgjfaaDoorRows
import GoSem.ClaimSeven
namespace Go.Proofs.YtcjjcghkokgjfaaDoor
namespace Rows

/-- THE TIED CARD OF 'laws.FnNonZero'. -/
def fnNonZeroCard : Claim7 := { stood := { row := fnNonZeroRow, standIns := [], harness := (true, "74edc65c6af03bfbf81a3cb760f71e29174267b272fd7a8b612cab79cf36b489"), looks := true }, kinds := [], alts := [], laidByText := true, laidKinds := [.sentinel, .sentinel, .sentinel], laidTests := true, laidLooks := .later }
def FnNonZeroCardSaid : Prop := Claim7.holds Tryd.pinned (.plain (OpenSpec.ofChange fnNonZeroSpec)) fnNonZeroCard

/-- THE TIED CARD OF 'laws.FnPad'. -/
def fnPadCard : Claim7 := { stood := { row := fnPadRow, standIns := [], harness := (true, "74edc65c6af03bfbf81a3cb760f71e29174267b272fd7a8b612cab79cf36b489"), looks := true }, kinds := [], alts := [], laidByText := true, laidKinds := [.sentinel, .sentinel, .sentinel], laidTests := true, laidLooks := .later }
def FnPadCardSaid : Prop := Claim7.holds Tryd.pinned (.plain (OpenSpec.ofChange fnPadSpec)) fnPadCard

/-- THE TIED CARD OF 'laws.FnPadNoughts'. -/
def fnPadNoughtsCard : Claim7 := { stood := { row := fnPadNoughtsRow, standIns := [], harness := (true, "74edc65c6af03bfbf81a3cb760f71e29174267b272fd7a8b612cab79cf36b489"), looks := true }, kinds := [], alts := [], laidByText := true, laidKinds := [.sentinel, .sentinel, .sentinel], laidTests := true, laidLooks := .later }
def FnPadNoughtsCardSaid : Prop := Claim7.holds Tryd.pinned (.plain (OpenSpec.ofChange fnPadNoughtsSpec)) fnPadNoughtsCard

/-- THE SECOND FORM's CARD OF 'laws.FnNonZero'. -/
def fnNonZeroUptoCard : Claim7 := { stood := { row := fnNonZeroUptoRow, standIns := [], harness := (true, "74edc65c6af03bfbf81a3cb760f71e29174267b272fd7a8b612cab79cf36b489"), looks := true }, kinds := [], alts := [], laidByText := true, laidKinds := [.sentinel, .sentinel, .sentinel], laidTests := true, laidLooks := .later }
def FnNonZeroUptoCardSaid : Prop := Claim7.holds Tryd.pinned (.plain (OpenSpec.upto fnNonZeroSpec)) fnNonZeroUptoCard

/-- THE SECOND FORM's CARD OF 'laws.FnPad'. -/
def fnPadUptoCard : Claim7 := { stood := { row := fnPadUptoRow, standIns := [], harness := (true, "74edc65c6af03bfbf81a3cb760f71e29174267b272fd7a8b612cab79cf36b489"), looks := true }, kinds := [], alts := [], laidByText := true, laidKinds := [.sentinel, .sentinel, .sentinel], laidTests := true, laidLooks := .later }
def FnPadUptoCardSaid : Prop := Claim7.holds Tryd.pinned (.plain (OpenSpec.upto fnPadSpec)) fnPadUptoCard

/-- THE SECOND FORM's CARD OF 'laws.FnPadNoughts'. -/
def fnPadNoughtsUptoCard : Claim7 := { stood := { row := fnPadNoughtsUptoRow, standIns := [], harness := (true, "74edc65c6af03bfbf81a3cb760f71e29174267b272fd7a8b612cab79cf36b489"), looks := true }, kinds := [], alts := [], laidByText := true, laidKinds := [.sentinel, .sentinel, .sentinel], laidTests := true, laidLooks := .later }
def FnPadNoughtsUptoCardSaid : Prop := Claim7.holds Tryd.pinned (.plain (OpenSpec.upto fnPadNoughtsSpec)) fnPadNoughtsUptoCard
end Rows
end Go.Proofs.YtcjjcghkokgjfaaDoor
