/-
  make of bytes; impl.either; laws.modulus, spec.HasNought.
-/
import Derived.Test.YtmheoenieaemmaaDoorCopy
namespace Go.Proofs.YtmheoenieaemmaaDoor
open Go.RowKit

/-- So many noughts, as a row of cells. -/
def zeroRow (n : Nat) : Array Value := ((List.replicate n (0 : UInt8)).map B).toArray

theorem make_bytes (w : World) (n : Nat) (hn : n ≤ 281474976710656) :
    (Instr.makeSlice 23 (.int .i64 (n : Int)) (.int .i64 (n : Int))).run Tryd.prog w = .ok (.slice (some ⟨w.heap.size, 0, none⟩) n n) (w.alloc (.cells (zeroRow n) 5)) := by
  obtain ⟨i, hi, hz0, hz1, hz2⟩ := info_parts infoByte
  have h := run_make (P := Tryd.prog) w 23 5 i (.int .u8 0) Tryd.underlying23 hi hz0 .i64 .i64 n n (by omega) (Int.le_refl _) (by rw [hz2]; omega) (by omega)
  have e : madeCells (Value.int IntKind.u8 0).cells ((n : Int).toNat * i.size) = zeroRow n := by
    apply Array.toList_inj.1
    rw [hz1, show (Value.int IntKind.u8 0).cells = #[Value.int IntKind.u8 0] from rfl, toList_madeCells_one]
    simp [zeroRow, B]
  rw [h, e]
  simp only [Int.toNat_natCast]

theorem either_ok (A : Option Addr) (c : Nat) (xs : List UInt8) (w : World) (h : BytesAt w A xs) (hl : xs.length ≤ 140737488355328) :
    Calls Tryd.prog 29 #[.slice A xs.length c, .nilIface] w fun e w' => ∃ v, e = .returned (.tuple #[v, .bool true]) ∧ w'.ownsRow w.heap.size 5 1 v xs.length (xs.map B) ∧ Kept NoBlk w w' := by
  have H := Lib.hid h
  clear h
  go_enter Tryd.func29, Tryd.ntmps29
  go_wp2_with fail
  refine (copied_any w A c xs H.out hl).mono ?_
  rintro e w1 ⟨v, rfl, hown, hk⟩
  have HO := Lib.hid hown
  have HK := Lib.hid hk
  clear hown hk
  go_wp2_with fail
  go_ret2
  exact ⟨v, rfl, HO.out, HK.out⟩

theorem either_err (v : Value) (p : Addr) (w : World) :
    Calls Tryd.prog 29 #[v, .iface 148 (.pointer (some p))] w fun e w' => e = .returned (.tuple #[.slice none 0 0, .bool false]) ∧ w = w' := by
  go_enter Tryd.func29, Tryd.ntmps29
  go_wp2_with fail
  go_ret2
  exact ⟨rfl, rfl⟩

end Go.Proofs.YtmheoenieaemmaaDoor
