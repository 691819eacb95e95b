/-
  checkPrivateKey of a key without primes, NewPrivateKeyWithoutCRT.
-/
import Derived.Test.YtdmpiecdpdknaaaDoorDecN
import Derived.Test.YtdmpiecdpdknaaaDoorPriv3
namespace Go.Proofs.YtdmpiecdpdknaaaDoor
open Go.RowKit

set_option maxHeartbeats 2000000 in
set_option maxRecDepth 20000 in
theorem checkPrivNo_nm (w0 w : World) (pk qN pN rN nN bd : Nat) (f0 : Bool) (m e : Nat)
    (kw : Kept NoBlk w0 w) (hpk : w0.heap.size ≤ pk) (hB : Blk w pk 75 #[.pointer (some ⟨qN, 0, none⟩), .int .i64 (e : Int), .pointer (some ⟨bd, 0, none⟩), .pointer none, .pointer none, .slice none 0 0, .slice none 0 0, .pointer none, .bool f0])
    (hN : Md w0 qN pN rN nN m) (mo : m % 2 = 1) (e2 : 2 ≤ e) (eo : e % 2 = 1) (em : e ≤ 2147483647) (mb : bitLen m < 2048) :
    Calls Tryd.prog 41 #[.pointer (some ⟨pk, 0, none⟩)] w fun x w' =>
      x = .returned .nilIface ∧ Kept NoBlk w0 w' ∧ Blk w' pk 75 #[.pointer (some ⟨qN, 0, none⟩), .int .i64 (e : Int), .pointer (some ⟨bd, 0, none⟩), .pointer none, .pointer none, .slice none 0 0, .slice none 0 0, .pointer none, .bool false] := by
  have hc0 : w.cell? ⟨pk, 0, none⟩ = some (.pointer (some ⟨qN, 0, none⟩)) := hB.cellIs rfl
  have hc1 : w.cell? ⟨pk, 1, none⟩ = some (.int .i64 (e : Int)) := hB.cellIs rfl
  have hc8 : w.cell? ⟨pk, 8, none⟩ = some (.bool f0) := hB.cellIs rfl
  have hf8 := hB.frozen 8
  have hk1 : Kept NoBlk w0 (w.setCell ⟨pk, 8, none⟩ (.bool true)) := kw.setNew hpk _ _
  have hB1 := hB.set_ 8 (.bool true)
  have hcp := checkPub_nm pk qN pN rN nN m e (w.setCell ⟨pk, 8, none⟩ (.bool true)) ⟨hB1.lt, hB1.cellIs rfl, hB1.cellIs rfl, hN.still hk1⟩ mo e2 eo em mb
  have CP := Lib.hid hcp
  have HK1 := Lib.hid hk1
  have HB1 := Lib.hid hB1
  have HPK := Lib.hid hpk
  clear hB kw hk1 hB1 hcp hN mo e2 eo em mb hpk
  go_enter Tryd.func41, Tryd.ntmps41
  go_wp2_with fail
  refine CP.out.mono ?_
  rintro x w1 ⟨rfl, k1⟩
  have hB2 := HB1.out.kept k1 (fun e => e)
  have c5 : w1.cell? ⟨pk, 5, none⟩ = some (.slice none 0 0) := hB2.cellIs rfl
  have c8 : w1.cell? ⟨pk, 8, none⟩ = some (.bool true) := hB2.cellIs rfl
  have f8 := hB2.frozen 8
  have hkb : Kept NoBlk w0 ((w1.setCell ⟨pk, 8, none⟩ (.bool false)).setCell ⟨pk, 8, none⟩ (.bool false)) := ((HK1.out.none k1).setNew HPK.out _ _).setNew HPK.out _ _
  have hB3 := hB2.set_ 8 (.bool false)
  have d8 : (w1.setCell ⟨pk, 8, none⟩ (.bool false)).cell? ⟨pk, 8, none⟩ = some (.bool false) := hB3.cellIs rfl
  have g8 := hB3.frozen 8
  have hBb := hB3.set_ 8 (.bool false)
  have HBb := Lib.hid hBb
  have HKb := Lib.hid hkb
  have hnil := eql_nil_yes (w1.setCell ⟨pk, 8, none⟩ (.bool false))
  clear k1 hB2 hB3 hBb hkb CP HB1 HK1
  go_wp2_with fail
  go_ret
  exact ⟨rfl, HKb.out, HBb.out⟩

/-- What NewPrivateKeyWithoutCRT leaves. -/
def PrivNoOut (m e d : Nat) (w : World) (x : Ending) (w' : World) : Prop := ∃ pk, x = .returned (.tuple #[.pointer (some ⟨pk, 0, none⟩), .nilIface]) ∧ PrivNo w' pk m e d ∧ Kept NoBlk w w'

set_option maxHeartbeats 2000000 in
set_option maxRecDepth 20000 in
theorem newPrivNo_any (w : World) (aN aD : Option Addr) (cN cD : Nat) (bN : List UInt8) (m e d : Nat)
    (hN : BytesAt w aN bN) (hD : BytesAt w aD (encT d)) (lN : bN.length ≤ 256) (kN : bN.length ≤ cN) (kD : (encT d).length ≤ cD)
    (vN : num bN = m) (lD : (encT d).length ≤ 256) (m1 : 1 < m) (dm : d < m) (mo : m % 2 = 1) (e2 : 2 ≤ e) (eo : e % 2 = 1) (em : e ≤ 2147483647) (mb : bitLen m < 2048) :
    Calls Tryd.prog 20 #[.slice aN bN.length cN, .int .i64 (e : Int), .slice aD (encT d).length cD] w (PrivNoOut m e d w) := by
  have C1 := Lib.hid (newMod_md aN cN bN w hN hN.below kN lN (by rw [vN]; exact m1))
  have HD := Lib.hid hD
  have VN := Lib.hid vN
  have MO := Lib.hid mo
  have DM := Lib.hid dm
  have CK : Hid (∀ (w0 w : World) (pk qN pN rN nN bd : Nat) (kw : Kept NoBlk w0 w) (hpk : w0.heap.size ≤ pk) (hB : Blk w pk 75 #[.pointer (some ⟨qN, 0, none⟩), .int .i64 (e : Int), .pointer (some ⟨bd, 0, none⟩), .pointer none, .pointer none, .slice none 0 0, .slice none 0 0, .pointer none, .bool false]) (hN : Md w0 qN pN rN nN m), _) :=
    Lib.hid (fun w0 w pk qN pN rN nN bd kw hpk hB hN => checkPrivNo_nm w0 w pk qN pN rN nN bd false m e kw hpk hB hN mo e2 eo em mb)
  clear hN hD vN mo dm m1 mb e2 eo em
  go_enter Tryd.func20, Tryd.ntmps20
  go_wp2_with fail
  refine C1.out.mono ?_
  rintro x w1 ⟨qN, pN, rN, nN, rfl, _, _, _, hm1, k1⟩
  rw [VN.out] at hm1
  have M1 := Lib.hid hm1
  have K1 := Lib.hid k1
  clear hm1 k1 C1
  go_wp2_with fail
  refine (newNat_nm w1).mono ?_
  rintro x w2 ⟨rfl, h4, k4⟩
  have hd4 := HD.out.still (K1.out.none k4)
  have hm4 := M1.out.still k4
  have hlt := M1.out.ltq
  have hlr := M1.out.ltr MO.out
  have h := setBytes_yes (w1.heap.size + 1) qN pN rN 0 0 nN m aD cD (encT d) w2 h4 hm4 (by omega) (by omega) hd4 (off_bytes h4 hd4) kD (by omega) (by rw [num_encT]; exact DM.out) (encT_len8 hm4 DM.out)
  rw [num_encT] at h
  have C5 := Lib.hid h
  have K4 := Lib.hid k4
  clear h4 k4 hd4 hm4 hlt hlr h
  go_wp2_with fail
  refine C5.out.mono ?_
  rintro x w3 ⟨rfl, h5, k5⟩
  have k35 : Kept NoBlk w1 w3 := At2.new K4.out k5 (Nat.lt_succ_self _)
  have hbk := Blk.new w3 75 #[.pointer (some ⟨qN, 0, none⟩), .int .i64 (e : Int), .pointer (some ⟨w1.heap.size + 1, 0, none⟩), .pointer none, .pointer none, .slice none 0 0, .slice none 0 0, .pointer none, .bool false]
  have C6 := Lib.hid (CK.out w3 _ w3.heap.size qN pN rN nN (w1.heap.size + 1) ((Kept.refl _ w3).alloc _) (Nat.le_refl _) hbk (M1.out.still k35))
  have M3 := Lib.hid (M1.out.still k35)
  have N3 := Lib.hid h5
  have K5 := Lib.hid (K1.out.none k35)
  clear h5 k5 k35 C5 hbk CK
  go_wp2_with fail
  refine C6.out.mono ?_
  rintro x w4 ⟨rfl, k6, hb6⟩
  have FIN : Hid (PrivNoOut m e d w (.returned (.tuple #[.pointer (some ⟨w3.heap.size, 0, none⟩), .nilIface])) w4) := Lib.hid ⟨_, rfl, ⟨qN, pN, rN, nN, _, hb6, M3.out.still k6, N3.out.still k6⟩, K5.out.none k6⟩
  clear hb6 k6 C6
  go_wp2_with fail
  go_ret2
  exact FIN.out

end Go.Proofs.YtdmpiecdpdknaaaDoor
