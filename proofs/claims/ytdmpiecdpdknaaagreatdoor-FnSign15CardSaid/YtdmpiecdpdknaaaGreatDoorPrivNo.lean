/-
  checkPrivateKey of a key without primes, NewPrivateKeyWithoutCRT.
-/
import Derived.Test.YtdmpiecdpdknaaaGreatDoorDecN
import Derived.Test.YtdmpiecdpdknaaaGreatDoorPriv3
namespace Go.Proofs.YtdmpiecdpdknaaaGreatDoor
open Go.RowKit

set_option maxHeartbeats 2000000 in
set_option maxRecDepth 20000 in
theorem checkPrivNo_nm (w0 w : World) (pk qN pN rN nN bd : Nat) (f0 : Bool) (m e : Nat)
    (kw : Kept NoBlk w0 w) (hpk : w0.heap.size ≤ pk) (hB : Blk w pk 80 #[.pointer (some ⟨qN, 0, none⟩), .int .i64 (e : Int), .pointer (some ⟨bd, 0, none⟩), .pointer none, .pointer none, .slice none 0 0, .slice none 0 0, .pointer none, .bool f0])
    (hN : Md w0 qN pN rN nN m) (mo : m % 2 = 1) (e2 : 2 ≤ e) (eo : e % 2 = 1) (em : e ≤ 2147483647) (mb : bitLen m < 2048) :
    Calls Tryz.prog 62 #[.pointer (some ⟨pk, 0, none⟩)] w fun x w' =>
      x = .returned .nilIface ∧ Kept NoBlk w0 w' ∧ Blk w' pk 80 #[.pointer (some ⟨qN, 0, none⟩), .int .i64 (e : Int), .pointer (some ⟨bd, 0, none⟩), .pointer none, .pointer none, .slice none 0 0, .slice none 0 0, .pointer none, .bool false] := by
  have hc0 : w.cell? ⟨pk, 0, none⟩ = some (.pointer (some ⟨qN, 0, none⟩)) := hB.cellIs rfl
  have hc1 : w.cell? ⟨pk, 1, none⟩ = some (.int .i64 (e : Int)) := hB.cellIs rfl
  have hc8 : w.cell? ⟨pk, 8, none⟩ = some (.bool f0) := hB.cellIs rfl
  have hf8 := hB.frozen 8
  have hk1 : Kept NoBlk w0 (w.setCell ⟨pk, 8, none⟩ (.bool true)) := kw.setNew hpk _ _
  have hB1 := hB.set_ 8 (.bool true)
  have hcp := checkPub_nm pk qN pN rN nN m e (w.setCell ⟨pk, 8, none⟩ (.bool true)) ⟨hB1.lt, hB1.cellIs rfl, hB1.cellIs rfl, hN.still hk1⟩ mo e2 eo em mb
  have CP := Lib.hid hcp
  have HK1 := Lib.hid hk1
  have HB1 := Lib.hid hB1
  have HPK := Lib.hid hpk
  clear hB kw hk1 hB1 hcp hN mo e2 eo em mb hpk
  go_enter Tryz.func62, Tryz.ntmps62
  go_wp2_with fail
  refine CP.out.mono ?_
  rintro x w1 ⟨rfl, k1⟩
  have hB2 := HB1.out.kept k1 (fun e => e)
  have c5 : w1.cell? ⟨pk, 5, none⟩ = some (.slice none 0 0) := hB2.cellIs rfl
  have c8 : w1.cell? ⟨pk, 8, none⟩ = some (.bool true) := hB2.cellIs rfl
  have f8 := hB2.frozen 8
  have hkb : Kept NoBlk w0 ((w1.setCell ⟨pk, 8, none⟩ (.bool false)).setCell ⟨pk, 8, none⟩ (.bool false)) := ((HK1.out.none k1).setNew HPK.out _ _).setNew HPK.out _ _
  have hB3 := hB2.set_ 8 (.bool false)
  have d8 : (w1.setCell ⟨pk, 8, none⟩ (.bool false)).cell? ⟨pk, 8, none⟩ = some (.bool false) := hB3.cellIs rfl
  have g8 := hB3.frozen 8
  have hBb := hB3.set_ 8 (.bool false)
  have HBb := Lib.hid hBb
  have HKb := Lib.hid hkb
  have hnil := eql_nil_yes (w1.setCell ⟨pk, 8, none⟩ (.bool false))
  clear k1 hB2 hB3 hBb hkb CP HB1 HK1
  go_wp2_with fail
  go_ret
  exact ⟨rfl, HKb.out, HBb.out⟩

/-- What NewPrivateKeyWithoutCRT leaves. -/
def PrivNoOut (m e d : Nat) (w : World) (x : Ending) (w' : World) : Prop := ∃ pk, x = .returned (.tuple #[.pointer (some ⟨pk, 0, none⟩), .nilIface]) ∧ PrivNo w' pk m e d ∧ Kept NoBlk w w'

end Go.Proofs.YtdmpiecdpdknaaaGreatDoor
