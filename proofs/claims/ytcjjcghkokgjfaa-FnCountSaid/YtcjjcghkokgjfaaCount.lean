/-
  FnCount: a counter of four bytes, the highest first, is one more; the greatest one is nought.
-/
import Derived.Test.YtcjjcghkokgjfaaRows
import Derived.Test.YtcjjcghkokgjfaaInc
import Derived.ProofKit
import Derived.OpenShut
import Derived.Lib.Hide
namespace Go.Proofs.Ytcjjcghkokgjfaa
open Go.RowKit

theorem zzinc_any (n : Int) (w : World) :
    Calls Try.prog 18 #[.agg (be4 n)] w fun e w' => e = .returned (.agg (be4 (n + 1))) ∧ Kept NoBlk w w' := by
  show Calls Try.prog 18 #[.agg #[.int .u8 (n / 16777216 % 256), .int .u8 (n / 65536 % 256), .int .u8 (n / 256 % 256), .int .u8 (n % 256)]] w _
  go_enter Try.func18, Try.ntmps18
  go_wp2_with fail
  refine (inc_any w.heap.size 23 n _ ((Blk.new w 23 _).alloc _)).mono ?_
  rintro e w1 ⟨rfl, hb, hk⟩
  have hz : Blk w1 (w.heap.size + 1) 23 #[.int .u8 0, .int .u8 0, .int .u8 0, .int .u8 0] :=
    (Blk.kept (by have := Blk.new (w.alloc (Obj.cells (be4 n) 23)) 23 #[.int .u8 0, .int .u8 0, .int .u8 0, .int .u8 0]; simpa using this) hk (by unfold OneBlk; omega))
  have a0 : w1.cell? ⟨w.heap.size, 0, none⟩ = some (.int .u8 ((n + 1) / 16777216 % 256)) := hb.cellIs rfl
  have a1 : w1.cell? ⟨w.heap.size, 1, none⟩ = some (.int .u8 ((n + 1) / 65536 % 256)) := hb.cellIs rfl
  have a2 : w1.cell? ⟨w.heap.size, 2, none⟩ = some (.int .u8 ((n + 1) / 256 % 256)) := hb.cellIs rfl
  have a3 : w1.cell? ⟨w.heap.size, 3, none⟩ = some (.int .u8 ((n + 1) % 256)) := hb.cellIs rfl
  have z0 := hz.cellIs (i := 0) rfl
  have z1 := hz.cellIs (i := 1) rfl
  have z2 := hz.cellIs (i := 2) rfl
  have z3 := hz.cellIs (i := 3) rfl
  have f0 := hz.frozen 0
  have f1 := hz.frozen 1
  have f2 := hz.frozen 2
  have f3 := hz.frozen 3
  have HK := Lib.hid hk
  have HZ := Lib.hid hz
  clear hk hb hz
  go_wp2_with fail
  refine bodyPost_ret (v := .agg (be4 (n + 1))) (results_cell_row rfl _ _ (w.heap.size + 1) 23 (be4 (n + 1)) (0, 0) _ rfl ((((HZ.out.set_ 0 _).set_ 1 _).set_ 2 _).set_ 3 _) Try.underlying23 rfl (by kernel_rfl)) rfl ⟨rfl, ?_⟩
  have h0 : Kept NoBlk w w1 := (((Kept.refl NoBlk w).alloc _).alloc _).fresh HK.out (Nat.le_refl _)
  exact (((h0.setNew (by omega) _ _).setNew (by omega) _ _).setNew (by omega) _ _).setNew (by omega) _ _
theorem count_any (n : Int) (w : World) :
    Calls Try.prog 7 #[.agg (be4 n)] w fun e w' => e = .returned (.agg (be4 (n + 1))) ∧ Kept NoBlk w w' := by
  show Calls Try.prog 7 #[.agg #[.int .u8 (n / 16777216 % 256), .int .u8 (n / 65536 % 256), .int .u8 (n / 256 % 256), .int .u8 (n % 256)]] w _
  go_enter Try.func7, Try.ntmps7
  go_wp2_with fail
  refine (zzinc_any n _).mono ?_
  rintro e w1 ⟨rfl, hk⟩
  have hz : Blk w1 (w.heap.size + 1) 23 #[.int .u8 0, .int .u8 0, .int .u8 0, .int .u8 0] :=
    (Blk.kept (by rw [← World.size_alloc w (Obj.cells (be4 n) 23)]; exact Blk.new _ _ _) hk (fun e => e))
  have z0 := hz.cellIs (i := 0) rfl
  have z1 := hz.cellIs (i := 1) rfl
  have z2 := hz.cellIs (i := 2) rfl
  have z3 := hz.cellIs (i := 3) rfl
  have f0 := hz.frozen 0
  have f1 := hz.frozen 1
  have f2 := hz.frozen 2
  have f3 := hz.frozen 3
  have HK := Lib.hid hk
  have HZ := Lib.hid hz
  clear hk hz
  rw [show be4 (n + 1) = #[.int .u8 ((n + 1) / 16777216 % 256), .int .u8 ((n + 1) / 65536 % 256), .int .u8 ((n + 1) / 256 % 256), .int .u8 ((n + 1) % 256)] from rfl]
  go_wp2_with fail
  refine bodyPost_ret (v := .agg (be4 (n + 1))) (results_cell_row rfl _ _ (w.heap.size + 1) 23 (be4 (n + 1)) (0, 0) _ rfl ((((HZ.out.set_ 0 _).set_ 1 _).set_ 2 _).set_ 3 _) Try.underlying23 rfl (by kernel_rfl)) rfl ⟨rfl, ?_⟩
  have h0 : Kept NoBlk w w1 := (((Kept.refl NoBlk w).alloc _).alloc _).none HK.out
  exact (((h0.setNew (by omega) _ _).setNew (by omega) _ _).setNew (by omega) _ _).setNew (by omega) _ _

theorem eq4 (a b c d : Int) (w : World) :
    (Op.equalIn 10000 23 (.agg #[.int .u8 a, .int .u8 b, .int .u8 c, .int .u8 d]) (.agg #[.int .u8 a, .int .u8 b, .int .u8 c, .int .u8 d])).run Try.prog w = .ok true w := by
  have hs : ∃ i, Try.prog.info? 5 = some i := by
    have h : (Try.prog.info? 5).isSome = true := by kernel_rfl
    exact Option.isSome_iff_exists.1 h
  obtain ⟨i, hi⟩ := hs
  have hc : Try.prog.cellsOf 5 = 1 := by kernel_rfl
  rw [run_equalIn_array w 9999 _ _ Try.underlying23 hi, hc, show List.range 4 = [0, 1, 2, 3] from rfl]
  have pt : ∀ (j : Nat) (v : Value), (#[Value.int IntKind.u8 a, .int .u8 b, .int .u8 c, .int .u8 d] : Array Value)[j]? = some v →
      (part 5 #[Value.int IntKind.u8 a, .int .u8 b, .int .u8 c, .int .u8 d] j).run Try.prog w = .ok v w := by
    intro j v hv
    simp [part, isAgg, run_underlying Try.underlying5, hv]
  have p0 := pt 0 _ rfl
  have p1 := pt 1 _ rfl
  have p2 := pt 2 _ rfl
  have p3 := pt 3 _ rfl
  have ei := fun (x : Int) => run_equalIn_int (P := Try.prog) w 9998 5 .u8 .u8 x x Try.underlying5
  simp [Op.eqItems, p0, p1, p2, p3, ei]

theorem fnCount_walk (c : Int) (w : World) (h0 : 0 ≤ c) (h1 : c ≤ 4294967295) :
    Calls Try.prog 3 #[.int .u32 c] w fun e w' => e = .returned (.bool true) ∧ Kept NoBlk w w' := by
  go_enter Try.func3, Try.ntmps3
  go_wp2_with fail
  rw [show #[Value.int IntKind.u8 (c / 16777216), Value.int IntKind.u8 (c / 65536 % 256), Value.int IntKind.u8 (c / 256 % 256), Value.int IntKind.u8 (c % 256)] = be4 c by
    unfold be4; rw [show c / 16777216 % 256 = c / 16777216 by omega]]
  refine (count_any c _).mono ?_
  rintro e w1 ⟨rfl, hk⟩
  have HK := Lib.hid hk
  clear hk
  rw [show be4 (c + 1) = #[.int .u8 ((c + 1) / 16777216 % 256), .int .u8 ((c + 1) / 65536 % 256), .int .u8 ((c + 1) / 256 % 256), .int .u8 ((c + 1) % 256)] from rfl]
  have he : ∀ w', (Op.equalIn 10000 23 (.agg #[.int .u8 ((c + 1) / 16777216 % 256), .int .u8 ((c + 1) / 65536 % 256), .int .u8 ((c + 1) / 256 % 256), .int .u8 ((c + 1) % 256)])
      (.agg #[.int .u8 ((c + 1) % 4294967296 / 16777216), .int .u8 ((c + 1) % 4294967296 / 65536 % 256), .int .u8 ((c + 1) % 4294967296 / 256 % 256), .int .u8 ((c + 1) % 256)])).run Try.prog w' = .ok true w' := by
    intro w'
    rw [show (c + 1) % 4294967296 / 16777216 = (c + 1) / 16777216 % 256 by omega, show (c + 1) % 4294967296 / 65536 % 256 = (c + 1) / 65536 % 256 by omega,
      show (c + 1) % 4294967296 / 256 % 256 = (c + 1) / 256 % 256 by omega]
    exact eq4 _ _ _ _ w'
  go_wp2_with fail
  go_ret
  exact ⟨rfl, HK.out⟩

end Go.Proofs.Ytcjjcghkokgjfaa
