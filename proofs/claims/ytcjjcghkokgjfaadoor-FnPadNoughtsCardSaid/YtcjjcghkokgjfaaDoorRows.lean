/-
  NARROWER THAN 'FOR EVERY INPUT', by the rows' own cells (each row's printed sentence says how): FnNonZero: laid · FnPad: laid · FnPadNoughts: laid.
  DERIVED. THE GIVEN ROWS OF THIS SEAT. 3 by the template 'for every input the law returns true; each argument reads behind the call as it read before'; 0 by the template 'total and deterministic' (their statements: YtcjjcghkokgjfaaDoorTotals.lean).
  GIVEN WITH THE SEED: the statements are not yours to turn. If you find one false, say at which input.
  Laid BY PROGRAM, IN A SANDBOX (cutbox-rows.mjs): the forced cells as the released guide's own fill.sh prints them over the translation 19d2574da0237383… (all of the seat's roots in one cut). By AI agents, Wed Nov 11 2026. No macro, syntax, notation, axiom, sorry.
-/
import Derived.Test.YtcjjcghkokgjfaaDoorChecked
import GoSem.Claim
import GoSem.ClaimJoined
import GoSem.ClaimMapViews
import Derived.JoinedTies
import Derived.KernelRfl
namespace Go.Proofs.YtcjjcghkokgjfaaDoor
/- THE CELL 'sum', in the pinned program and in every row, IS THE sha256 OF THE DUMP (.gsa) THAT YtcjjcghkokgjfaaDoorProg.lean LOADS. Nothing in Lean hashes anything: it is a label: what it is worth is what the hold of that sum in a sandbox is worth. -/
noncomputable def Tryd.pinned : Pinned := { name := "ytcjjcghkokgjfaadoor", sum := "19d2574da023738316db6f64c426a71e456b3609582091ff73b1d574775227a0", checked := Tryd.checked }
namespace Rows
def none {H : Type} : Left H := { results := [], args := [] }

/- WHAT THE LISTED PACKAGE-LEVEL VARIABLES READ AS WHEN THE CALL BEGINS. Each datum BY PROGRAM (the guide's laid-datum.mjs) off the statement by which the dump's own 'gosem.cut.vars' lays the variable. In a bare row this is a premise. The card (YtcjjcghkokgjfaaDoorCards.lean) ties it to the program's text. -/
def laid_io_ErrShortBuffer {H : Type} : DataW H := .iface "*errors.errorString" (.ptr (.agg [.lit (.string [115, 104, 111, 114, 116, 32, 98, 117, 102, 102, 101, 114])]))
def laid_io_EOF {H : Type} : DataW H := .iface "*errors.errorString" (.ptr (.agg [.lit (.string [69, 79, 70])]))
def laid_io_ErrUnexpectedEOF {H : Type} : DataW H := .iface "*errors.errorString" (.ptr (.agg [.lit (.string [117, 110, 101, 120, 112, 101, 99, 116, 101, 100, 32, 69, 79, 70])]))

/-- 'laws.FnNonZero': WHATEVER THE INPUT: true; the input reads as it did. -/
def fnNonZeroSpec : ChangeSpec := { name := "fnNonZero", fn := fun _ => fun
  | [d1, d2] => { results := [.lit (.bool true)], args := [d1, d2] }
  | _ => none }
def fnNonZeroRow : OpenClaim := { program := "ytcjjcghkokgjfaadoor", sum := "19d2574da023738316db6f64c426a71e456b3609582091ff73b1d574775227a0", func := "loop.example/pub-g03132/laws.FnNonZero", spec := "fnNonZero", unfollowed := true, recurses := true, named := ["io.ErrShortBuffer", "io.EOF", "io.ErrUnexpectedEOF"], apart := false, laid := [("io.ErrShortBuffer", laid_io_ErrShortBuffer), ("io.EOF", laid_io_EOF), ("io.ErrUnexpectedEOF", laid_io_ErrUnexpectedEOF)] }
def FnNonZeroSaid : Prop := fnNonZeroRow.holds Tryd.pinned (OpenSpec.ofChange fnNonZeroSpec)

/-- ITS FALSE NEIGHBOUR: 'it returns false'. Refute it at one input. -/
def fnNonZeroWrong : ChangeSpec := { name := "fnNonZero", fn := fun _ => fun
  | [d1, d2] => { results := [.lit (.bool false)], args := [d1, d2] }
  | _ => none }
def FnNonZeroWrongFalsely : Prop := fnNonZeroRow.holds Tryd.pinned (OpenSpec.ofChange fnNonZeroWrong)

/-- 'laws.FnPad': WHATEVER THE INPUT: true; the input reads as it did. -/
def fnPadSpec : ChangeSpec := { name := "fnPad", fn := fun _ => fun
  | [d1, d2, d3] => { results := [.lit (.bool true)], args := [d1, d2, d3] }
  | _ => none }
def fnPadRow : OpenClaim := { program := "ytcjjcghkokgjfaadoor", sum := "19d2574da023738316db6f64c426a71e456b3609582091ff73b1d574775227a0", func := "loop.example/pub-g03132/laws.FnPad", spec := "fnPad", unfollowed := true, recurses := true, named := ["io.ErrShortBuffer", "io.EOF", "io.ErrUnexpectedEOF"], apart := false, laid := [("io.ErrShortBuffer", laid_io_ErrShortBuffer), ("io.EOF", laid_io_EOF), ("io.ErrUnexpectedEOF", laid_io_ErrUnexpectedEOF)] }
def FnPadSaid : Prop := fnPadRow.holds Tryd.pinned (OpenSpec.ofChange fnPadSpec)

/-- ITS FALSE NEIGHBOUR: 'it returns false'. Refute it at one input. -/
def fnPadWrong : ChangeSpec := { name := "fnPad", fn := fun _ => fun
  | [d1, d2, d3] => { results := [.lit (.bool false)], args := [d1, d2, d3] }
  | _ => none }
def FnPadWrongFalsely : Prop := fnPadRow.holds Tryd.pinned (OpenSpec.ofChange fnPadWrong)

/-- 'laws.FnPadNoughts': WHATEVER THE INPUT: true; the input reads as it did. -/
def fnPadNoughtsSpec : ChangeSpec := { name := "fnPadNoughts", fn := fun _ => fun
  | [d1, d2, d3] => { results := [.lit (.bool true)], args := [d1, d2, d3] }
  | _ => none }
def fnPadNoughtsRow : OpenClaim := { program := "ytcjjcghkokgjfaadoor", sum := "19d2574da023738316db6f64c426a71e456b3609582091ff73b1d574775227a0", func := "loop.example/pub-g03132/laws.FnPadNoughts", spec := "fnPadNoughts", unfollowed := true, recurses := true, named := ["io.ErrShortBuffer", "io.EOF", "io.ErrUnexpectedEOF"], apart := false, laid := [("io.ErrShortBuffer", laid_io_ErrShortBuffer), ("io.EOF", laid_io_EOF), ("io.ErrUnexpectedEOF", laid_io_ErrUnexpectedEOF)] }
def FnPadNoughtsSaid : Prop := fnPadNoughtsRow.holds Tryd.pinned (OpenSpec.ofChange fnPadNoughtsSpec)

/-- ITS FALSE NEIGHBOUR: 'it returns false'. Refute it at one input. -/
def fnPadNoughtsWrong : ChangeSpec := { name := "fnPadNoughts", fn := fun _ => fun
  | [d1, d2, d3] => { results := [.lit (.bool false)], args := [d1, d2, d3] }
  | _ => none }
def FnPadNoughtsWrongFalsely : Prop := fnPadNoughtsRow.holds Tryd.pinned (OpenSpec.ofChange fnPadNoughtsWrong)

/- THE SECOND FORM. 'bulk': how many values and letters a reading holds, each counted each time it is reached (what is shared counts as often as it is met; a slice's spare places count too). A statement '..UptoSaid' is the law's where the arguments, and the package variables that the reading takes, are together of bulk at most 1048576: NARROWER than '..Said'. Prove '..Said' where nothing that the law and all that it calls make is longer than what came in: it says more and counts as full. Else prove '..UptoSaid'. A law counts once. -/
mutual
def uptoBulk {H : Type} : DataW H → Nat
  | .lit (.string bytes) => bytes.length + 1
  | .lit _ => 1
  | .nil => 1
  | .ptr d => uptoBulk d + 1
  | .slice elems spare => uptoBulkAll elems + uptoBulkAll spare + 1
  | .agg parts => uptoBulkAll parts + 1
  | .iface _ d => uptoBulk d + 1
  | .map entries => uptoBulkEntries entries + 1
  | .held _ => 1
def uptoBulkAll {H : Type} : List (DataW H) → Nat
  | [] => 0
  | d :: r => uptoBulk d + uptoBulkAll r
def uptoBulkEntries {H : Type} : List (Lit × DataW H) → Nat
  | [] => 0
  | x :: r => uptoBulkEntry x + uptoBulkEntries r
def uptoBulkEntry {H : Type} : Lit × DataW H → Nat
  | (.string bytes, d) => bytes.length + uptoBulk d + 1
  | (_, d) => uptoBulk d + 1
 end
def uptoSmall : (H : Type) → List (DataW H) → Bool := fun _ ds => decide (uptoBulkAll ds ≤ 1048576)
def OpenSpec.upto (s : _root_.Go.ChangeSpec) : _root_.Go.OpenSpec := { _root_.Go.OpenSpec.ofChange s with cond := some uptoSmall }

/-- 'laws.FnNonZero', WHERE WHAT IT READS IS OF BULK AT MOST 1048576: true; the input reads as it did. -/
def fnNonZeroUptoRow : OpenClaim := { program := "ytcjjcghkokgjfaadoor", sum := "19d2574da023738316db6f64c426a71e456b3609582091ff73b1d574775227a0", func := "loop.example/pub-g03132/laws.FnNonZero", spec := "fnNonZero", unfollowed := true, recurses := true, named := ["io.ErrShortBuffer", "io.EOF", "io.ErrUnexpectedEOF"], apart := false, laid := [("io.ErrShortBuffer", laid_io_ErrShortBuffer), ("io.EOF", laid_io_EOF), ("io.ErrUnexpectedEOF", laid_io_ErrUnexpectedEOF)], narrowed := true }
def FnNonZeroUptoSaid : Prop := fnNonZeroUptoRow.holds Tryd.pinned (OpenSpec.upto fnNonZeroSpec)

/-- 'laws.FnPad', WHERE WHAT IT READS IS OF BULK AT MOST 1048576: true; the input reads as it did. -/
def fnPadUptoRow : OpenClaim := { program := "ytcjjcghkokgjfaadoor", sum := "19d2574da023738316db6f64c426a71e456b3609582091ff73b1d574775227a0", func := "loop.example/pub-g03132/laws.FnPad", spec := "fnPad", unfollowed := true, recurses := true, named := ["io.ErrShortBuffer", "io.EOF", "io.ErrUnexpectedEOF"], apart := false, laid := [("io.ErrShortBuffer", laid_io_ErrShortBuffer), ("io.EOF", laid_io_EOF), ("io.ErrUnexpectedEOF", laid_io_ErrUnexpectedEOF)], narrowed := true }
def FnPadUptoSaid : Prop := fnPadUptoRow.holds Tryd.pinned (OpenSpec.upto fnPadSpec)

/-- 'laws.FnPadNoughts', WHERE WHAT IT READS IS OF BULK AT MOST 1048576: true; the input reads as it did. -/
def fnPadNoughtsUptoRow : OpenClaim := { program := "ytcjjcghkokgjfaadoor", sum := "19d2574da023738316db6f64c426a71e456b3609582091ff73b1d574775227a0", func := "loop.example/pub-g03132/laws.FnPadNoughts", spec := "fnPadNoughts", unfollowed := true, recurses := true, named := ["io.ErrShortBuffer", "io.EOF", "io.ErrUnexpectedEOF"], apart := false, laid := [("io.ErrShortBuffer", laid_io_ErrShortBuffer), ("io.EOF", laid_io_EOF), ("io.ErrUnexpectedEOF", laid_io_ErrUnexpectedEOF)], narrowed := true }
def FnPadNoughtsUptoSaid : Prop := fnPadNoughtsUptoRow.holds Tryd.pinned (OpenSpec.upto fnPadNoughtsSpec)

end Rows
end Go.Proofs.YtcjjcghkokgjfaaDoor
