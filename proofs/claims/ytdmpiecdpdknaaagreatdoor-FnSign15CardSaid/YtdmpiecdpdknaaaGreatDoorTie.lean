/-
  DERIVED. GIVEN WITH THE SEED: THE PROGRAM's TIES (one call each: nine closed facts by the kernel) AND EACH ROW's TIE, after the 31st guide's Derived/Test/Toyas{Tie, Card}.lean. No idea stands in it: it is a product of the set-up. Laid BY PROGRAM, IN A SANDBOX (cutbox-door.mjs). By AI agents, Wed Nov 11 2026. No macro, syntax, notation, axiom, sorry.
-/
import Derived.Test.YtdmpiecdpdknaaaGreatDoorRows
import Derived.LaidByTextLater
import Derived.SevenTiedAt
import Derived.LaidSub
import Derived.LaidOnce
namespace Go.Proofs.YtdmpiecdpdknaaaGreatDoor
open Go
set_option maxRecDepth 100000
theorem seatTie1 : Tryz.prog.laidByTextLater [("loop.example/pub-g03132/pub/rsa.ErrMessageTooLong", Rows.laid_loop_example_pub_g03132_pub_rsa_ErrMessageTooLong), ("loop.example/pub-g03132/pub/rsa.ErrDecryption", Rows.laid_loop_example_pub_g03132_pub_rsa_ErrDecryption), ("loop.example/pub-g03132/pub/rsa.ErrVerification", Rows.laid_loop_example_pub_g03132_pub_rsa_ErrVerification)] [.sentinel, .sentinel, .sentinel] true :=
  Program.laidByTextLater_by_one 66 8 2 (by kernel_rfl) (by kernel_rfl) (by kernel_rfl) (by kernel_rfl) (by kernel_rfl) (by kernel_rfl) (fun _ _ => by kernel_rfl)
theorem noOwnUnsafe : Tryz.pinned.checked.prog.headLifts.contains "ownunsafe" = false := by kernel_rfl
theorem tie : Tryz.prog.laidByTextLater [("loop.example/pub-g03132/pub/rsa.ErrMessageTooLong", Rows.laid_loop_example_pub_g03132_pub_rsa_ErrMessageTooLong), ("loop.example/pub-g03132/pub/rsa.ErrDecryption", Rows.laid_loop_example_pub_g03132_pub_rsa_ErrDecryption), ("loop.example/pub-g03132/pub/rsa.ErrVerification", Rows.laid_loop_example_pub_g03132_pub_rsa_ErrVerification)] [.sentinel, .sentinel, .sentinel] true :=
  Program.laidByTextLater.sub seatTie1 ["loop.example/pub-g03132/pub/rsa.ErrMessageTooLong", "loop.example/pub-g03132/pub/rsa.ErrDecryption", "loop.example/pub-g03132/pub/rsa.ErrVerification"] (by kernel_rfl) (by kernel_rfl)
theorem fnSign15_row_tie : Rows.fnSign15Row.laidByTextAt .later Tryz.pinned [.sentinel, .sentinel, .sentinel] true :=
  OpenClaim.laidByTextAt_later rfl rfl tie noOwnUnsafe
theorem fnSign15Upto_row_tie : Rows.fnSign15UptoRow.laidByTextAt .later Tryz.pinned [.sentinel, .sentinel, .sentinel] true :=
  OpenClaim.laidByTextAt_later rfl rfl tie noOwnUnsafe
end Go.Proofs.YtdmpiecdpdknaaaGreatDoor
