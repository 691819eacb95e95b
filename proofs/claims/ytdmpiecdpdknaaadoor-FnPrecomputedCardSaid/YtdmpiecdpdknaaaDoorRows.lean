/-
  NARROWER THAN 'FOR EVERY INPUT', by the rows' own cells (each row's printed sentence says how): FnRoads: ifaces, laid · FnBack: ifaces, laid · FnForth: ifaces, laid · FnPrecomputed: ifaces, laid.
  DERIVED. THE GIVEN ROWS OF THIS SEAT. 4 by the template 'for every input the law returns true; each argument reads behind the call as it read before'; 0 by the template 'total and deterministic' (their statements: YtdmpiecdpdknaaaDoorTotals.lean).
  GIVEN WITH THE SEED: the statements are not yours to turn. If you find one false, say at which input.
  Laid BY PROGRAM, IN A SANDBOX (cutbox-rows.mjs): the forced cells as the released guide's own fill.sh prints them over the translation 52f53d4eef8152ae… (all of the seat's roots in one cut). By AI agents, Wed Nov 11 2026. No macro, syntax, notation, axiom, sorry.
-/
import Derived.Test.YtdmpiecdpdknaaaDoorChecked
import GoSem.Claim
import GoSem.ClaimJoined
import GoSem.ClaimMapViews
import Derived.JoinedTies
import Derived.KernelRfl
namespace Go.Proofs.YtdmpiecdpdknaaaDoor
/- THE CELL 'sum', in the pinned program and in every row, IS THE sha256 OF THE DUMP (.gsa) THAT YtdmpiecdpdknaaaDoorProg.lean LOADS. Nothing in Lean hashes anything: it is a label: what it is worth is what the hold of that sum in a sandbox is worth. -/
noncomputable def Tryd.pinned : Pinned := { name := "ytdmpiecdpdknaaadoor", sum := "52f53d4eef8152ae6e085ade07831155e0402232235a0843fd195aa74a079f30", checked := Tryd.checked }
namespace Rows
def none {H : Type} : Left H := { results := [], args := [] }

/- WHAT THE LISTED PACKAGE-LEVEL VARIABLES READ AS WHEN THE CALL BEGINS. Each datum BY PROGRAM (the guide's laid-datum.mjs) off the statement by which the dump's own 'gosem.cut.vars' lays the variable. In a bare row this is a premise. The card (YtdmpiecdpdknaaaDoorCards.lean) ties it to the program's text. -/
def laid_loop_example_pub_g03132_pub_rsa_ErrDecryption {H : Type} : DataW H := .iface "*errors.errorString" (.ptr (.agg [.lit (.string [99, 114, 121, 112, 116, 111, 47, 114, 115, 97, 58, 32, 100, 101, 99, 114, 121, 112, 116, 105, 111, 110, 32, 101, 114, 114, 111, 114])]))

/-- 'laws.FnRoads': WHATEVER THE INPUT: true; the input reads as it did. -/
def fnRoadsSpec : ChangeSpec := { name := "fnRoads", vars := ["loop.example/pub-g03132/pub/rsa.ErrDecryption"], fn := fun _ => fun
  | [d1, d2, g1] => { results := [.lit (.bool true)], args := [d1, d2], vars := [g1] }
  | _ => none }
def fnRoadsRow : OpenClaim := { program := "ytdmpiecdpdknaaadoor", sum := "52f53d4eef8152ae6e085ade07831155e0402232235a0843fd195aa74a079f30", func := "loop.example/pub-g03132/laws.FnRoads", spec := "fnRoads", inPlace := ["math/bits.Sub64", "math/bits.Add64"], named := ["loop.example/pub-g03132/pub/rsa.ErrDecryption"], ifaces := true, apart := false, laid := [("loop.example/pub-g03132/pub/rsa.ErrDecryption", laid_loop_example_pub_g03132_pub_rsa_ErrDecryption)] }
def FnRoadsSaid : Prop := fnRoadsRow.holds Tryd.pinned (OpenSpec.ofChange fnRoadsSpec)

/-- ITS FALSE NEIGHBOUR: 'it returns false'. Refute it at one input. -/
def fnRoadsWrong : ChangeSpec := { name := "fnRoads", vars := ["loop.example/pub-g03132/pub/rsa.ErrDecryption"], fn := fun _ => fun
  | [d1, d2, g1] => { results := [.lit (.bool false)], args := [d1, d2], vars := [g1] }
  | _ => none }
def FnRoadsWrongFalsely : Prop := fnRoadsRow.holds Tryd.pinned (OpenSpec.ofChange fnRoadsWrong)

/-- 'laws.FnBack': WHATEVER THE INPUT: true; the input reads as it did. -/
def fnBackSpec : ChangeSpec := { name := "fnBack", vars := ["loop.example/pub-g03132/pub/rsa.ErrDecryption"], fn := fun _ => fun
  | [d1, d2, d3, d4, g1] => { results := [.lit (.bool true)], args := [d1, d2, d3, d4], vars := [g1] }
  | _ => none }
def fnBackRow : OpenClaim := { program := "ytdmpiecdpdknaaadoor", sum := "52f53d4eef8152ae6e085ade07831155e0402232235a0843fd195aa74a079f30", func := "loop.example/pub-g03132/laws.FnBack", spec := "fnBack", inPlace := ["math/bits.Sub64", "math/bits.Add64"], named := ["loop.example/pub-g03132/pub/rsa.ErrDecryption"], ifaces := true, apart := false, laid := [("loop.example/pub-g03132/pub/rsa.ErrDecryption", laid_loop_example_pub_g03132_pub_rsa_ErrDecryption)] }
def FnBackSaid : Prop := fnBackRow.holds Tryd.pinned (OpenSpec.ofChange fnBackSpec)

/-- ITS FALSE NEIGHBOUR: 'it returns false'. Refute it at one input. -/
def fnBackWrong : ChangeSpec := { name := "fnBack", vars := ["loop.example/pub-g03132/pub/rsa.ErrDecryption"], fn := fun _ => fun
  | [d1, d2, d3, d4, g1] => { results := [.lit (.bool false)], args := [d1, d2, d3, d4], vars := [g1] }
  | _ => none }
def FnBackWrongFalsely : Prop := fnBackRow.holds Tryd.pinned (OpenSpec.ofChange fnBackWrong)

/-- 'laws.FnForth': WHATEVER THE INPUT: true; the input reads as it did. -/
def fnForthSpec : ChangeSpec := { name := "fnForth", vars := ["loop.example/pub-g03132/pub/rsa.ErrDecryption"], fn := fun _ => fun
  | [d1, d2, d3, g1] => { results := [.lit (.bool true)], args := [d1, d2, d3], vars := [g1] }
  | _ => none }
def fnForthRow : OpenClaim := { program := "ytdmpiecdpdknaaadoor", sum := "52f53d4eef8152ae6e085ade07831155e0402232235a0843fd195aa74a079f30", func := "loop.example/pub-g03132/laws.FnForth", spec := "fnForth", inPlace := ["math/bits.Sub64", "math/bits.Add64"], named := ["loop.example/pub-g03132/pub/rsa.ErrDecryption"], ifaces := true, apart := false, laid := [("loop.example/pub-g03132/pub/rsa.ErrDecryption", laid_loop_example_pub_g03132_pub_rsa_ErrDecryption)] }
def FnForthSaid : Prop := fnForthRow.holds Tryd.pinned (OpenSpec.ofChange fnForthSpec)

/-- ITS FALSE NEIGHBOUR: 'it returns false'. Refute it at one input. -/
def fnForthWrong : ChangeSpec := { name := "fnForth", vars := ["loop.example/pub-g03132/pub/rsa.ErrDecryption"], fn := fun _ => fun
  | [d1, d2, d3, g1] => { results := [.lit (.bool false)], args := [d1, d2, d3], vars := [g1] }
  | _ => none }
def FnForthWrongFalsely : Prop := fnForthRow.holds Tryd.pinned (OpenSpec.ofChange fnForthWrong)

/-- 'laws.FnPrecomputed': WHATEVER THE INPUT: true; the input reads as it did. -/
def fnPrecomputedSpec : ChangeSpec := { name := "fnPrecomputed", vars := ["loop.example/pub-g03132/pub/rsa.ErrDecryption"], fn := fun _ => fun
  | [d1, d2, g1] => { results := [.lit (.bool true)], args := [d1, d2], vars := [g1] }
  | _ => none }
def fnPrecomputedRow : OpenClaim := { program := "ytdmpiecdpdknaaadoor", sum := "52f53d4eef8152ae6e085ade07831155e0402232235a0843fd195aa74a079f30", func := "loop.example/pub-g03132/laws.FnPrecomputed", spec := "fnPrecomputed", inPlace := ["math/bits.Sub64", "math/bits.Add64"], named := ["loop.example/pub-g03132/pub/rsa.ErrDecryption"], ifaces := true, apart := false, laid := [("loop.example/pub-g03132/pub/rsa.ErrDecryption", laid_loop_example_pub_g03132_pub_rsa_ErrDecryption)] }
def FnPrecomputedSaid : Prop := fnPrecomputedRow.holds Tryd.pinned (OpenSpec.ofChange fnPrecomputedSpec)

/-- ITS FALSE NEIGHBOUR: 'it returns false'. Refute it at one input. -/
def fnPrecomputedWrong : ChangeSpec := { name := "fnPrecomputed", vars := ["loop.example/pub-g03132/pub/rsa.ErrDecryption"], fn := fun _ => fun
  | [d1, d2, g1] => { results := [.lit (.bool false)], args := [d1, d2], vars := [g1] }
  | _ => none }
def FnPrecomputedWrongFalsely : Prop := fnPrecomputedRow.holds Tryd.pinned (OpenSpec.ofChange fnPrecomputedWrong)

/- THE SECOND FORM. 'bulk': how many values and letters a reading holds, each counted each time it is reached (what is shared counts as often as it is met; a slice's spare places count too). A statement '..UptoSaid' is the law's where the arguments, and the package variables that the reading takes, are together of bulk at most 1048576: NARROWER than '..Said'. Prove '..Said' where nothing that the law and all that it calls make is longer than what came in: it says more and counts as full. Else prove '..UptoSaid'. A law counts once. -/
mutual
def uptoBulk {H : Type} : DataW H → Nat
  | .lit (.string bytes) => bytes.length + 1
  | .lit _ => 1
  | .nil => 1
  | .ptr d => uptoBulk d + 1
  | .slice elems spare => uptoBulkAll elems + uptoBulkAll spare + 1
  | .agg parts => uptoBulkAll parts + 1
  | .iface _ d => uptoBulk d + 1
  | .map entries => uptoBulkEntries entries + 1
  | .held _ => 1
def uptoBulkAll {H : Type} : List (DataW H) → Nat
  | [] => 0
  | d :: r => uptoBulk d + uptoBulkAll r
def uptoBulkEntries {H : Type} : List (Lit × DataW H) → Nat
  | [] => 0
  | x :: r => uptoBulkEntry x + uptoBulkEntries r
def uptoBulkEntry {H : Type} : Lit × DataW H → Nat
  | (.string bytes, d) => bytes.length + uptoBulk d + 1
  | (_, d) => uptoBulk d + 1
 end
def uptoSmall : (H : Type) → List (DataW H) → Bool := fun _ ds => decide (uptoBulkAll ds ≤ 1048576)
def OpenSpec.upto (s : _root_.Go.ChangeSpec) : _root_.Go.OpenSpec := { _root_.Go.OpenSpec.ofChange s with cond := some uptoSmall }

/-- 'laws.FnRoads', WHERE WHAT IT READS IS OF BULK AT MOST 1048576: true; the input reads as it did. -/
def fnRoadsUptoRow : OpenClaim := { program := "ytdmpiecdpdknaaadoor", sum := "52f53d4eef8152ae6e085ade07831155e0402232235a0843fd195aa74a079f30", func := "loop.example/pub-g03132/laws.FnRoads", spec := "fnRoads", inPlace := ["math/bits.Sub64", "math/bits.Add64"], named := ["loop.example/pub-g03132/pub/rsa.ErrDecryption"], ifaces := true, apart := false, laid := [("loop.example/pub-g03132/pub/rsa.ErrDecryption", laid_loop_example_pub_g03132_pub_rsa_ErrDecryption)], narrowed := true }
def FnRoadsUptoSaid : Prop := fnRoadsUptoRow.holds Tryd.pinned (OpenSpec.upto fnRoadsSpec)

/-- 'laws.FnBack', WHERE WHAT IT READS IS OF BULK AT MOST 1048576: true; the input reads as it did. -/
def fnBackUptoRow : OpenClaim := { program := "ytdmpiecdpdknaaadoor", sum := "52f53d4eef8152ae6e085ade07831155e0402232235a0843fd195aa74a079f30", func := "loop.example/pub-g03132/laws.FnBack", spec := "fnBack", inPlace := ["math/bits.Sub64", "math/bits.Add64"], named := ["loop.example/pub-g03132/pub/rsa.ErrDecryption"], ifaces := true, apart := false, laid := [("loop.example/pub-g03132/pub/rsa.ErrDecryption", laid_loop_example_pub_g03132_pub_rsa_ErrDecryption)], narrowed := true }
def FnBackUptoSaid : Prop := fnBackUptoRow.holds Tryd.pinned (OpenSpec.upto fnBackSpec)

/-- 'laws.FnForth', WHERE WHAT IT READS IS OF BULK AT MOST 1048576: true; the input reads as it did. -/
def fnForthUptoRow : OpenClaim := { program := "ytdmpiecdpdknaaadoor", sum := "52f53d4eef8152ae6e085ade07831155e0402232235a0843fd195aa74a079f30", func := "loop.example/pub-g03132/laws.FnForth", spec := "fnForth", inPlace := ["math/bits.Sub64", "math/bits.Add64"], named := ["loop.example/pub-g03132/pub/rsa.ErrDecryption"], ifaces := true, apart := false, laid := [("loop.example/pub-g03132/pub/rsa.ErrDecryption", laid_loop_example_pub_g03132_pub_rsa_ErrDecryption)], narrowed := true }
def FnForthUptoSaid : Prop := fnForthUptoRow.holds Tryd.pinned (OpenSpec.upto fnForthSpec)

/-- 'laws.FnPrecomputed', WHERE WHAT IT READS IS OF BULK AT MOST 1048576: true; the input reads as it did. -/
def fnPrecomputedUptoRow : OpenClaim := { program := "ytdmpiecdpdknaaadoor", sum := "52f53d4eef8152ae6e085ade07831155e0402232235a0843fd195aa74a079f30", func := "loop.example/pub-g03132/laws.FnPrecomputed", spec := "fnPrecomputed", inPlace := ["math/bits.Sub64", "math/bits.Add64"], named := ["loop.example/pub-g03132/pub/rsa.ErrDecryption"], ifaces := true, apart := false, laid := [("loop.example/pub-g03132/pub/rsa.ErrDecryption", laid_loop_example_pub_g03132_pub_rsa_ErrDecryption)], narrowed := true }
def FnPrecomputedUptoSaid : Prop := fnPrecomputedUptoRow.holds Tryd.pinned (OpenSpec.upto fnPrecomputedSpec)

end Rows
end Go.Proofs.YtdmpiecdpdknaaaDoor
