/-
  sha256.Digest.Reset, sha256.New (printed by gen_rs.py).
-/
import Derived.Test.YtgkfnmmajehobaaShaSm
namespace Go.Proofs.Ytgkfnmmajehobaa
open Go.RowKit

def shaIV : Reg := ⟨1779033703, 3144134277, 1013904242, 2773480762, 1359893119, 2600822924, 528734635, 1541459225⟩

set_option maxHeartbeats 4000000 in
set_option maxRecDepth 100000 in
theorem shaReset_to (g : Nat) (ks : List Int) (h : Reg) (x : List UInt8) (nx len : Int) (w : World) (hd : DgAt w g h (DgR x nx len false)) (hx : x.length = 64) :
    Calls Try.prog 14 #[.pointer (some ⟨g, 0, none⟩)] w fun e w' => e = .returned (.tuple #[]) ∧ ShaAt w' g ks shaIV [] ∧ Kept (OneBlk g) w w' := by
  have c0 : w.cell? ⟨g, 0, none⟩ = some (.int .u32 h.a) := Blk.cellIs hd rfl
  have f0 := Blk.frozen hd 0
  have c1 : w.cell? ⟨g, 1, none⟩ = some (.int .u32 h.b) := Blk.cellIs hd rfl
  have f1 := Blk.frozen hd 1
  have c2 : w.cell? ⟨g, 2, none⟩ = some (.int .u32 h.c) := Blk.cellIs hd rfl
  have f2 := Blk.frozen hd 2
  have c3 : w.cell? ⟨g, 3, none⟩ = some (.int .u32 h.d) := Blk.cellIs hd rfl
  have f3 := Blk.frozen hd 3
  have c4 : w.cell? ⟨g, 4, none⟩ = some (.int .u32 h.e) := Blk.cellIs hd rfl
  have f4 := Blk.frozen hd 4
  have c5 : w.cell? ⟨g, 5, none⟩ = some (.int .u32 h.f) := Blk.cellIs hd rfl
  have f5 := Blk.frozen hd 5
  have c6 : w.cell? ⟨g, 6, none⟩ = some (.int .u32 h.g) := Blk.cellIs hd rfl
  have f6 := Blk.frozen hd 6
  have c7 : w.cell? ⟨g, 7, none⟩ = some (.int .u32 h.h) := Blk.cellIs hd rfl
  have f7 := Blk.frozen hd 7
  have c72 := hd.nxC hx
  have f72 := Blk.frozen hd 72
  have c73 := hd.lenC hx
  have f73 := Blk.frozen hd 73
  have c74 := hd.isC hx
  have FIN : Hid (∀ W, W = (((((((((w.setCell ⟨g, 0, none⟩ (.int .u32 1779033703)).setCell ⟨g, 1, none⟩ (.int .u32 3144134277)).setCell ⟨g, 2, none⟩ (.int .u32 1013904242)).setCell ⟨g, 3, none⟩ (.int .u32 2773480762)).setCell ⟨g, 4, none⟩ (.int .u32 1359893119)).setCell ⟨g, 5, none⟩ (.int .u32 2600822924)).setCell ⟨g, 6, none⟩ (.int .u32 528734635)).setCell ⟨g, 7, none⟩ (.int .u32 1541459225)).setCell ⟨g, 72, none⟩ (.int .i64 0)).setCell ⟨g, 73, none⟩ (.int .u64 0) → ShaAt W g ks shaIV [] ∧ Kept (OneBlk g) w W) := Lib.hid (by
    rintro W rfl
    have h1 := ((put8 hd shaIV).setNx hx 0).setLen hx 0
    exact ⟨⟨x, hx, rfl, h1⟩, (((((((((((Kept.refl _ w).setOne 0 _).setOne 1 _).setOne 2 _).setOne 3 _).setOne 4 _).setOne 5 _).setOne 6 _).setOne 7 _).setOne 72 _).setOne 73 _)⟩)
  clear hd hx
  go_enter Try.func14, Try.ntmps14
  go_wp2_with fail
  refine bodyPost_end (results_none rfl _ _ _) rfl ?_
  exact ⟨rfl, FIN.out _ rfl⟩

set_option maxHeartbeats 4000000 in
set_option maxRecDepth 100000 in
theorem shaNew_any (ks : List Int) (w : World) :
    Calls Try.prog 11 #[] w fun e w' => e = .returned (.pointer (some ⟨w.heap.size, 0, none⟩)) ∧ ShaAt w' w.heap.size ks shaIV [] ∧ Kept NoBlk w w' := by
  obtain ⟨g, hg⟩ : ∃ g, w.heap.size = g := ⟨_, rfl⟩
  have hz1 := Blk.new w 54 #[.int .u32 0, .int .u32 0, .int .u32 0, .int .u32 0, .int .u32 0, .int .u32 0, .int .u32 0, .int .u32 0, .int .u8 0, .int .u8 0, .int .u8 0, .int .u8 0, .int .u8 0, .int .u8 0, .int .u8 0, .int .u8 0, .int .u8 0, .int .u8 0, .int .u8 0, .int .u8 0, .int .u8 0, .int .u8 0, .int .u8 0, .int .u8 0, .int .u8 0, .int .u8 0, .int .u8 0, .int .u8 0, .int .u8 0, .int .u8 0, .int .u8 0, .int .u8 0, .int .u8 0, .int .u8 0, .int .u8 0, .int .u8 0, .int .u8 0, .int .u8 0, .int .u8 0, .int .u8 0, .int .u8 0, .int .u8 0, .int .u8 0, .int .u8 0, .int .u8 0, .int .u8 0, .int .u8 0, .int .u8 0, .int .u8 0, .int .u8 0, .int .u8 0, .int .u8 0, .int .u8 0, .int .u8 0, .int .u8 0, .int .u8 0, .int .u8 0, .int .u8 0, .int .u8 0, .int .u8 0, .int .u8 0, .int .u8 0, .int .u8 0, .int .u8 0, .int .u8 0, .int .u8 0, .int .u8 0, .int .u8 0, .int .u8 0, .int .u8 0, .int .u8 0, .int .u8 0, .int .i64 0, .int .u64 0, .bool false]
  have k1 : Kept NoBlk w (w.alloc (.cells #[.int .u32 0, .int .u32 0, .int .u32 0, .int .u32 0, .int .u32 0, .int .u32 0, .int .u32 0, .int .u32 0, .int .u8 0, .int .u8 0, .int .u8 0, .int .u8 0, .int .u8 0, .int .u8 0, .int .u8 0, .int .u8 0, .int .u8 0, .int .u8 0, .int .u8 0, .int .u8 0, .int .u8 0, .int .u8 0, .int .u8 0, .int .u8 0, .int .u8 0, .int .u8 0, .int .u8 0, .int .u8 0, .int .u8 0, .int .u8 0, .int .u8 0, .int .u8 0, .int .u8 0, .int .u8 0, .int .u8 0, .int .u8 0, .int .u8 0, .int .u8 0, .int .u8 0, .int .u8 0, .int .u8 0, .int .u8 0, .int .u8 0, .int .u8 0, .int .u8 0, .int .u8 0, .int .u8 0, .int .u8 0, .int .u8 0, .int .u8 0, .int .u8 0, .int .u8 0, .int .u8 0, .int .u8 0, .int .u8 0, .int .u8 0, .int .u8 0, .int .u8 0, .int .u8 0, .int .u8 0, .int .u8 0, .int .u8 0, .int .u8 0, .int .u8 0, .int .u8 0, .int .u8 0, .int .u8 0, .int .u8 0, .int .u8 0, .int .u8 0, .int .u8 0, .int .u8 0, .int .i64 0, .int .u64 0, .bool false] 54)) := (Kept.refl _ w).alloc _
  obtain ⟨w1, hw1⟩ : ∃ w1, w.alloc (.cells #[.int .u32 0, .int .u32 0, .int .u32 0, .int .u32 0, .int .u32 0, .int .u32 0, .int .u32 0, .int .u32 0, .int .u8 0, .int .u8 0, .int .u8 0, .int .u8 0, .int .u8 0, .int .u8 0, .int .u8 0, .int .u8 0, .int .u8 0, .int .u8 0, .int .u8 0, .int .u8 0, .int .u8 0, .int .u8 0, .int .u8 0, .int .u8 0, .int .u8 0, .int .u8 0, .int .u8 0, .int .u8 0, .int .u8 0, .int .u8 0, .int .u8 0, .int .u8 0, .int .u8 0, .int .u8 0, .int .u8 0, .int .u8 0, .int .u8 0, .int .u8 0, .int .u8 0, .int .u8 0, .int .u8 0, .int .u8 0, .int .u8 0, .int .u8 0, .int .u8 0, .int .u8 0, .int .u8 0, .int .u8 0, .int .u8 0, .int .u8 0, .int .u8 0, .int .u8 0, .int .u8 0, .int .u8 0, .int .u8 0, .int .u8 0, .int .u8 0, .int .u8 0, .int .u8 0, .int .u8 0, .int .u8 0, .int .u8 0, .int .u8 0, .int .u8 0, .int .u8 0, .int .u8 0, .int .u8 0, .int .u8 0, .int .u8 0, .int .u8 0, .int .u8 0, .int .u8 0, .int .i64 0, .int .u64 0, .bool false] 54) = w1 := ⟨_, rfl⟩
  rw [hw1] at hz1 k1
  rw [hg] at hz1
  have hz : ∀ w, (zeroValue 54).run Try.prog w = .ok (.agg #[.int .u32 0, .int .u32 0, .int .u32 0, .int .u32 0, .int .u32 0, .int .u32 0, .int .u32 0, .int .u32 0, .int .u8 0, .int .u8 0, .int .u8 0, .int .u8 0, .int .u8 0, .int .u8 0, .int .u8 0, .int .u8 0, .int .u8 0, .int .u8 0, .int .u8 0, .int .u8 0, .int .u8 0, .int .u8 0, .int .u8 0, .int .u8 0, .int .u8 0, .int .u8 0, .int .u8 0, .int .u8 0, .int .u8 0, .int .u8 0, .int .u8 0, .int .u8 0, .int .u8 0, .int .u8 0, .int .u8 0, .int .u8 0, .int .u8 0, .int .u8 0, .int .u8 0, .int .u8 0, .int .u8 0, .int .u8 0, .int .u8 0, .int .u8 0, .int .u8 0, .int .u8 0, .int .u8 0, .int .u8 0, .int .u8 0, .int .u8 0, .int .u8 0, .int .u8 0, .int .u8 0, .int .u8 0, .int .u8 0, .int .u8 0, .int .u8 0, .int .u8 0, .int .u8 0, .int .u8 0, .int .u8 0, .int .u8 0, .int .u8 0, .int .u8 0, .int .u8 0, .int .u8 0, .int .u8 0, .int .u8 0, .int .u8 0, .int .u8 0, .int .u8 0, .int .u8 0, .int .i64 0, .int .u64 0, .bool false]) w := fun _ => by kernel_rfl
  have hd : DgAt w1 g ⟨0, 0, 0, 0, 0, 0, 0, 0⟩ (DgR (List.replicate 64 0) 0 0 false) := hz1
  have HR := Lib.hid (shaReset_to g ks _ _ _ _ w1 hd rfl)
  have HK := Lib.hid k1
  clear hz1 k1 hd
  rw [hg]
  go_enter Try.func11, Try.ntmps11
  go_wp2_with fail
  refine HR.out.mono ?_
  rintro e w2 ⟨rfl, h2, k2⟩
  have FIN := Lib.hid (And.intro h2 (HK.out.fresh k2 (by omega)))
  clear h2 k2
  go_wp2_with fail
  go_ret
  exact ⟨rfl, FIN.out⟩

end Go.Proofs.Ytgkfnmmajehobaa
