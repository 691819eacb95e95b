/-
  make of bytes; impl.either; laws.modulus, spec.HasNought.
-/
import Derived.Test.YtgkfnmmajehobaaCopy
namespace Go.Proofs.Ytgkfnmmajehobaa
open Go.RowKit

/-- So many noughts, as a row of cells. -/
def zeroRow (n : Nat) : Array Value := ((List.replicate n (0 : UInt8)).map B).toArray

theorem make_bytes (w : World) (n : Nat) (hn : n ≤ 281474976710656) :
    (Instr.makeSlice 24 (.int .i64 (n : Int)) (.int .i64 (n : Int))).run Try.prog w = .ok (.slice (some ⟨w.heap.size, 0, none⟩) n n) (w.alloc (.cells (zeroRow n) 5)) := by
  obtain ⟨i, hi, hz0, hz1, hz2⟩ := info_parts infoByte
  have h := run_make (P := Try.prog) w 24 5 i (.int .u8 0) Try.underlying24 hi hz0 .i64 .i64 n n (by omega) (Int.le_refl _) (by rw [hz2]; omega) (by omega)
  have e : madeCells (Value.int IntKind.u8 0).cells ((n : Int).toNat * i.size) = zeroRow n := by
    apply Array.toList_inj.1
    rw [hz1, show (Value.int IntKind.u8 0).cells = #[Value.int IntKind.u8 0] from rfl, toList_madeCells_one]
    simp [zeroRow, B]
  rw [h, e]
  simp only [Int.toNat_natCast]

end Go.Proofs.Ytgkfnmmajehobaa
