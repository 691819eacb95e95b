/-
  NARROWER THAN 'FOR EVERY INPUT', by the rows' own cells (each row's printed sentence says how): FnSign15: ifaces, laid.
  DERIVED. THE GIVEN ROWS OF THIS SEAT. 1 by the template 'for every input the law returns true; each argument reads behind the call as it read before'; 0 by the template 'total and deterministic' (their statements: YtdmpiecdpdknaaaGreatDoorTotals.lean).
  GIVEN WITH THE SEED: the statements are not yours to turn. If you find one false, say at which input.
  Laid BY PROGRAM, IN A SANDBOX (cutbox-rows.mjs): the forced cells as the released guide's own fill.sh prints them over the translation 00508fd8ebdc8395… (all of the seat's roots in one cut). By AI agents, Wed Nov 11 2026. No macro, syntax, notation, axiom, sorry.
-/
import Derived.Test.YtdmpiecdpdknaaaGreatDoorChecked
import GoSem.Claim
import GoSem.ClaimJoined
import GoSem.ClaimMapViews
import Derived.JoinedTies
import Derived.KernelRfl
namespace Go.Proofs.YtdmpiecdpdknaaaGreatDoor
/- THE CELL 'sum', in the pinned program and in every row, IS THE sha256 OF THE DUMP (.gsa) THAT YtdmpiecdpdknaaaGreatDoorProg.lean LOADS. Nothing in Lean hashes anything: it is a label: what it is worth is what the hold of that sum in a sandbox is worth. -/
noncomputable def Tryz.pinned : Pinned := { name := "ytdmpiecdpdknaaagreatdoor", sum := "00508fd8ebdc839564c2c84be9a6ca1033dc204e034e46b224ae0af7e415d68e", checked := Tryz.checked }
namespace Rows
def none {H : Type} : Left H := { results := [], args := [] }

/- WHAT THE LISTED PACKAGE-LEVEL VARIABLES READ AS WHEN THE CALL BEGINS. Each datum BY PROGRAM (the guide's laid-datum.mjs) off the statement by which the dump's own 'gosem.cut.vars' lays the variable. In a bare row this is a premise. The card (YtdmpiecdpdknaaaGreatDoorCards.lean) ties it to the program's text. -/
def laid_loop_example_pub_g03132_pub_rsa_ErrMessageTooLong {H : Type} : DataW H := .iface "*errors.errorString" (.ptr (.agg [.lit (.string [99, 114, 121, 112, 116, 111, 47, 114, 115, 97, 58, 32, 109, 101, 115, 115, 97, 103, 101, 32, 116, 111, 111, 32, 108, 111, 110, 103, 32, 102, 111, 114, 32, 82, 83, 65, 32, 107, 101, 121, 32, 115, 105, 122, 101])]))
def laid_loop_example_pub_g03132_pub_rsa_ErrDecryption {H : Type} : DataW H := .iface "*errors.errorString" (.ptr (.agg [.lit (.string [99, 114, 121, 112, 116, 111, 47, 114, 115, 97, 58, 32, 100, 101, 99, 114, 121, 112, 116, 105, 111, 110, 32, 101, 114, 114, 111, 114])]))
def laid_loop_example_pub_g03132_pub_rsa_ErrVerification {H : Type} : DataW H := .iface "*errors.errorString" (.ptr (.agg [.lit (.string [99, 114, 121, 112, 116, 111, 47, 114, 115, 97, 58, 32, 118, 101, 114, 105, 102, 105, 99, 97, 116, 105, 111, 110, 32, 101, 114, 114, 111, 114])]))

/-- 'laws.FnSign15': WHATEVER THE INPUT: true; the input reads as it did. -/
def fnSign15Spec : ChangeSpec := { name := "fnSign15", vars := ["loop.example/pub-g03132/pub/rsa.ErrMessageTooLong", "loop.example/pub-g03132/pub/rsa.ErrDecryption", "loop.example/pub-g03132/pub/rsa.ErrVerification"], fn := fun _ => fun
  | [d1, d2, d3, d4, d5, g1, g2, g3] => { results := [.lit (.bool true)], args := [d1, d2, d3, d4, d5], vars := [g1, g2, g3] }
  | _ => none }
def fnSign15Row : OpenClaim := { program := "ytdmpiecdpdknaaagreatdoor", sum := "00508fd8ebdc839564c2c84be9a6ca1033dc204e034e46b224ae0af7e415d68e", func := "loop.example/pub-g03132/laws.FnSign15", spec := "fnSign15", inPlace := ["math/bits.Sub64", "math/bits.Add64"], named := ["loop.example/pub-g03132/pub/rsa.ErrMessageTooLong", "loop.example/pub-g03132/pub/rsa.ErrDecryption", "loop.example/pub-g03132/pub/rsa.ErrVerification"], ifaces := true, apart := false, laid := [("loop.example/pub-g03132/pub/rsa.ErrMessageTooLong", laid_loop_example_pub_g03132_pub_rsa_ErrMessageTooLong), ("loop.example/pub-g03132/pub/rsa.ErrDecryption", laid_loop_example_pub_g03132_pub_rsa_ErrDecryption), ("loop.example/pub-g03132/pub/rsa.ErrVerification", laid_loop_example_pub_g03132_pub_rsa_ErrVerification)] }
def FnSign15Said : Prop := fnSign15Row.holds Tryz.pinned (OpenSpec.ofChange fnSign15Spec)

/-- ITS FALSE NEIGHBOUR: 'it returns false'. Refute it at one input. -/
def fnSign15Wrong : ChangeSpec := { name := "fnSign15", vars := ["loop.example/pub-g03132/pub/rsa.ErrMessageTooLong", "loop.example/pub-g03132/pub/rsa.ErrDecryption", "loop.example/pub-g03132/pub/rsa.ErrVerification"], fn := fun _ => fun
  | [d1, d2, d3, d4, d5, g1, g2, g3] => { results := [.lit (.bool false)], args := [d1, d2, d3, d4, d5], vars := [g1, g2, g3] }
  | _ => none }
def FnSign15WrongFalsely : Prop := fnSign15Row.holds Tryz.pinned (OpenSpec.ofChange fnSign15Wrong)

/- THE SECOND FORM. 'bulk': how many values and letters a reading holds, each counted each time it is reached (what is shared counts as often as it is met; a slice's spare places count too). A statement '..UptoSaid' is the law's where the arguments, and the package variables that the reading takes, are together of bulk at most 1048576: NARROWER than '..Said'. Prove '..Said' where nothing that the law and all that it calls make is longer than what came in: it says more and counts as full. Else prove '..UptoSaid'. A law counts once. -/
mutual
def uptoBulk {H : Type} : DataW H → Nat
  | .lit (.string bytes) => bytes.length + 1
  | .lit _ => 1
  | .nil => 1
  | .ptr d => uptoBulk d + 1
  | .slice elems spare => uptoBulkAll elems + uptoBulkAll spare + 1
  | .agg parts => uptoBulkAll parts + 1
  | .iface _ d => uptoBulk d + 1
  | .map entries => uptoBulkEntries entries + 1
  | .held _ => 1
def uptoBulkAll {H : Type} : List (DataW H) → Nat
  | [] => 0
  | d :: r => uptoBulk d + uptoBulkAll r
def uptoBulkEntries {H : Type} : List (Lit × DataW H) → Nat
  | [] => 0
  | x :: r => uptoBulkEntry x + uptoBulkEntries r
def uptoBulkEntry {H : Type} : Lit × DataW H → Nat
  | (.string bytes, d) => bytes.length + uptoBulk d + 1
  | (_, d) => uptoBulk d + 1
 end
def uptoSmall : (H : Type) → List (DataW H) → Bool := fun _ ds => decide (uptoBulkAll ds ≤ 1048576)
def OpenSpec.upto (s : _root_.Go.ChangeSpec) : _root_.Go.OpenSpec := { _root_.Go.OpenSpec.ofChange s with cond := some uptoSmall }

/-- 'laws.FnSign15', WHERE WHAT IT READS IS OF BULK AT MOST 1048576: true; the input reads as it did. -/
def fnSign15UptoRow : OpenClaim := { program := "ytdmpiecdpdknaaagreatdoor", sum := "00508fd8ebdc839564c2c84be9a6ca1033dc204e034e46b224ae0af7e415d68e", func := "loop.example/pub-g03132/laws.FnSign15", spec := "fnSign15", inPlace := ["math/bits.Sub64", "math/bits.Add64"], named := ["loop.example/pub-g03132/pub/rsa.ErrMessageTooLong", "loop.example/pub-g03132/pub/rsa.ErrDecryption", "loop.example/pub-g03132/pub/rsa.ErrVerification"], ifaces := true, apart := false, laid := [("loop.example/pub-g03132/pub/rsa.ErrMessageTooLong", laid_loop_example_pub_g03132_pub_rsa_ErrMessageTooLong), ("loop.example/pub-g03132/pub/rsa.ErrDecryption", laid_loop_example_pub_g03132_pub_rsa_ErrDecryption), ("loop.example/pub-g03132/pub/rsa.ErrVerification", laid_loop_example_pub_g03132_pub_rsa_ErrVerification)], narrowed := true }
def FnSign15UptoSaid : Prop := fnSign15UptoRow.holds Tryz.pinned (OpenSpec.upto fnSign15Spec)

end Rows
end Go.Proofs.YtdmpiecdpdknaaaGreatDoor
