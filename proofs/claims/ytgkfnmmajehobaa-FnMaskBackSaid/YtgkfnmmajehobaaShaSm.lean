/-
  sha256.Digest.Sum (printed by gen_sm.py).
-/
import Derived.Test.YtgkfnmmajehobaaShaCs
namespace Go.Proofs.Ytgkfnmmajehobaa
open Go.RowKit

theorem dgL_one (h : Reg) (x : List UInt8) (nx len : Int) (s : Bool) : (DgL h (DgR x nx len s)).toArray.all (·.oneCell') = true := by
  refine Array.all_eq_true_iff_forall_mem.2 (fun v hv => ?_)
  have hv2 : v ∈ DgL h (DgR x nx len s) := by simpa using hv
  unfold DgL DgR at hv2
  rcases List.mem_append.1 hv2 with h1 | h1
  · simp only [List.mem_cons, List.not_mem_nil, or_false] at h1
    rcases h1 with rfl | rfl | rfl | rfl | rfl | rfl | rfl | rfl <;> rfl
  · rcases List.mem_append.1 h1 with h2 | h2
    · exact oneCell_bytes _ v h2
    · simp only [List.mem_cons, List.not_mem_nil, or_false] at h2
      rcases h2 with rfl | rfl | rfl <;> rfl

set_option maxHeartbeats 4000000 in
set_option maxRecDepth 100000 in
theorem shaSum_any (g N : Nat) (ks : List Int) (iv : Reg) (m : List UInt8) (v : Value) (xs : List UInt8) (w : World) (ho : ShaAt w g ks iv m) (hk : KAt w ks) (hml : m.length ≤ 1000000) (hown : w.ownsRow N 5 1 v xs.length (xs.map B)) (hN : N ≤ w.heap.size) (hgN : g < N) (hl : xs.length ≤ 1000000) :
    Calls Try.prog 33 #[.pointer (some ⟨g, 0, none⟩), v] w fun e w' => ∃ v', e = .returned v' ∧ w'.ownsRow N 5 1 v' (xs ++ shaF ks iv m).length ((xs ++ shaF ks iv m).map B) ∧ Kept (From N) w w' := by
  obtain ⟨x, hx, htk, hd⟩ := ho
  obtain ⟨g2, hg2⟩ : ∃ g2, w.heap.size = g2 := ⟨_, rfl⟩
  have h0 := hk.1
  obtain ⟨C, hC⟩ : ∃ C, (DgL (shaH (blkS ks) iv m) (DgR x ((m.length % 64 : Nat) : Int) (m.length : Int) false)).toArray = C := ⟨_, rfl⟩
  have hcs : C.size = 75 := by rw [← hC, List.size_toArray, dgL_length, dgR_length hx]
  have hc1 : C.all (·.oneCell') = true := by rw [← hC]; exact dgL_one _ _ _ _ _
  have hCg : Blk w g 54 C := by rw [← hC]; exact hd
  have hz1 := Blk.new w 54 #[.int .u32 0, .int .u32 0, .int .u32 0, .int .u32 0, .int .u32 0, .int .u32 0, .int .u32 0, .int .u32 0, .int .u8 0, .int .u8 0, .int .u8 0, .int .u8 0, .int .u8 0, .int .u8 0, .int .u8 0, .int .u8 0, .int .u8 0, .int .u8 0, .int .u8 0, .int .u8 0, .int .u8 0, .int .u8 0, .int .u8 0, .int .u8 0, .int .u8 0, .int .u8 0, .int .u8 0, .int .u8 0, .int .u8 0, .int .u8 0, .int .u8 0, .int .u8 0, .int .u8 0, .int .u8 0, .int .u8 0, .int .u8 0, .int .u8 0, .int .u8 0, .int .u8 0, .int .u8 0, .int .u8 0, .int .u8 0, .int .u8 0, .int .u8 0, .int .u8 0, .int .u8 0, .int .u8 0, .int .u8 0, .int .u8 0, .int .u8 0, .int .u8 0, .int .u8 0, .int .u8 0, .int .u8 0, .int .u8 0, .int .u8 0, .int .u8 0, .int .u8 0, .int .u8 0, .int .u8 0, .int .u8 0, .int .u8 0, .int .u8 0, .int .u8 0, .int .u8 0, .int .u8 0, .int .u8 0, .int .u8 0, .int .u8 0, .int .u8 0, .int .u8 0, .int .u8 0, .int .i64 0, .int .u64 0, .bool false]
  have k1 : Kept NoBlk w (w.alloc (.cells #[.int .u32 0, .int .u32 0, .int .u32 0, .int .u32 0, .int .u32 0, .int .u32 0, .int .u32 0, .int .u32 0, .int .u8 0, .int .u8 0, .int .u8 0, .int .u8 0, .int .u8 0, .int .u8 0, .int .u8 0, .int .u8 0, .int .u8 0, .int .u8 0, .int .u8 0, .int .u8 0, .int .u8 0, .int .u8 0, .int .u8 0, .int .u8 0, .int .u8 0, .int .u8 0, .int .u8 0, .int .u8 0, .int .u8 0, .int .u8 0, .int .u8 0, .int .u8 0, .int .u8 0, .int .u8 0, .int .u8 0, .int .u8 0, .int .u8 0, .int .u8 0, .int .u8 0, .int .u8 0, .int .u8 0, .int .u8 0, .int .u8 0, .int .u8 0, .int .u8 0, .int .u8 0, .int .u8 0, .int .u8 0, .int .u8 0, .int .u8 0, .int .u8 0, .int .u8 0, .int .u8 0, .int .u8 0, .int .u8 0, .int .u8 0, .int .u8 0, .int .u8 0, .int .u8 0, .int .u8 0, .int .u8 0, .int .u8 0, .int .u8 0, .int .u8 0, .int .u8 0, .int .u8 0, .int .u8 0, .int .u8 0, .int .u8 0, .int .u8 0, .int .u8 0, .int .u8 0, .int .i64 0, .int .u64 0, .bool false] 54)) := (Kept.refl _ w).alloc _
  obtain ⟨w1, hw1⟩ : ∃ w1, w.alloc (.cells #[.int .u32 0, .int .u32 0, .int .u32 0, .int .u32 0, .int .u32 0, .int .u32 0, .int .u32 0, .int .u32 0, .int .u8 0, .int .u8 0, .int .u8 0, .int .u8 0, .int .u8 0, .int .u8 0, .int .u8 0, .int .u8 0, .int .u8 0, .int .u8 0, .int .u8 0, .int .u8 0, .int .u8 0, .int .u8 0, .int .u8 0, .int .u8 0, .int .u8 0, .int .u8 0, .int .u8 0, .int .u8 0, .int .u8 0, .int .u8 0, .int .u8 0, .int .u8 0, .int .u8 0, .int .u8 0, .int .u8 0, .int .u8 0, .int .u8 0, .int .u8 0, .int .u8 0, .int .u8 0, .int .u8 0, .int .u8 0, .int .u8 0, .int .u8 0, .int .u8 0, .int .u8 0, .int .u8 0, .int .u8 0, .int .u8 0, .int .u8 0, .int .u8 0, .int .u8 0, .int .u8 0, .int .u8 0, .int .u8 0, .int .u8 0, .int .u8 0, .int .u8 0, .int .u8 0, .int .u8 0, .int .u8 0, .int .u8 0, .int .u8 0, .int .u8 0, .int .u8 0, .int .u8 0, .int .u8 0, .int .u8 0, .int .u8 0, .int .u8 0, .int .u8 0, .int .u8 0, .int .i64 0, .int .u64 0, .bool false] 54) = w1 := ⟨_, rfl⟩
  rw [hw1] at hz1 k1
  rw [hg2] at hz1
  have k2 : Kept NoBlk w (w1.setRow g2 C) := k1.fresh (setRow_kept w1 g2 C) (by omega)
  have hd2 : DgAt (w1.setRow g2 C) g2 (shaH (blkS ks) iv m) (DgR x ((m.length % 64 : Nat) : Int) (m.length : Int) false) := by
    have := setRow_heap w1 g2 _ C 54 (0, 0) hz1
    rw [← hC] at this ⊢
    exact this
  have ho2 : ShaAt (w1.setRow g2 C) g2 ks iv m := ⟨x, hx, htk, hd2⟩
  have hcheck := checkSum_any g2 ks iv m (w1.setRow g2 C) ho2 (hk.kept k2 (fun e => e)) (by omega) hml
  have hz : ∀ w, (zeroValue 54).run Try.prog w = .ok (.agg #[.int .u32 0, .int .u32 0, .int .u32 0, .int .u32 0, .int .u32 0, .int .u32 0, .int .u32 0, .int .u32 0, .int .u8 0, .int .u8 0, .int .u8 0, .int .u8 0, .int .u8 0, .int .u8 0, .int .u8 0, .int .u8 0, .int .u8 0, .int .u8 0, .int .u8 0, .int .u8 0, .int .u8 0, .int .u8 0, .int .u8 0, .int .u8 0, .int .u8 0, .int .u8 0, .int .u8 0, .int .u8 0, .int .u8 0, .int .u8 0, .int .u8 0, .int .u8 0, .int .u8 0, .int .u8 0, .int .u8 0, .int .u8 0, .int .u8 0, .int .u8 0, .int .u8 0, .int .u8 0, .int .u8 0, .int .u8 0, .int .u8 0, .int .u8 0, .int .u8 0, .int .u8 0, .int .u8 0, .int .u8 0, .int .u8 0, .int .u8 0, .int .u8 0, .int .u8 0, .int .u8 0, .int .u8 0, .int .u8 0, .int .u8 0, .int .u8 0, .int .u8 0, .int .u8 0, .int .u8 0, .int .u8 0, .int .u8 0, .int .u8 0, .int .u8 0, .int .u8 0, .int .u8 0, .int .u8 0, .int .u8 0, .int .u8 0, .int .u8 0, .int .u8 0, .int .u8 0, .int .i64 0, .int .u64 0, .bool false]) w := fun _ => by kernel_rfl
  have hi54 : (Try.prog.info? 54).map (·.size) = some 75 := by kernel_rfl
  have hi32 : (Try.prog.info? 72).map (·.size) = some 32 := by kernel_rfl
  have HCG := Lib.hid hCg
  have HZ1 := Lib.hid hz1
  have HCK := Lib.hid hcheck
  have HOW := Lib.hid hown
  have HK2 := Lib.hid k2
  clear hd htk hx hC hd2 ho2 hk hCg hz1 hcheck hown k2 k1
  go_enter Try.func33, Try.ntmps33
  go_wp2_with (first | (refine wpList_load_row rfl 54 _ rfl g rfl 54 C (0, 0) _ HCG.out Try.underlying54 rfl (by rw [hcs]; exact hi54) ?_) | (refine wpList_store_row rfl 54 _ _ rfl g2 C rfl rfl 54 _ HZ1.out (by rw [hcs]; exact hi54) (by rw [hcs]; rfl) hc1 ?_))
  refine HCK.out.mono ?_
  rintro e w3 ⟨rfl, c74, k3⟩
  obtain ⟨F, hF⟩ : ∃ F, shaF ks iv m = F := ⟨_, rfl⟩
  have hFl : F.length = 32 := by rw [← hF]; rfl
  rw [hF]
  have HF := Lib.hid hF
  clear hF HCK
  have k23 : Kept NoBlk w w3 := HK2.out.fresh k3 (by omega)
  have hg23 : g2 < w3.heap.size := Nat.lt_of_lt_of_le (Blk.lt (setRow_heap w1 g2 _ C 54 (0, 0) HZ1.out)) k3.size
  obtain ⟨g3, hg3⟩ : ∃ g3, w3.heap.size = g3 := ⟨_, rfl⟩
  have hz4 := Blk.new w3 72 #[.int .u8 0, .int .u8 0, .int .u8 0, .int .u8 0, .int .u8 0, .int .u8 0, .int .u8 0, .int .u8 0, .int .u8 0, .int .u8 0, .int .u8 0, .int .u8 0, .int .u8 0, .int .u8 0, .int .u8 0, .int .u8 0, .int .u8 0, .int .u8 0, .int .u8 0, .int .u8 0, .int .u8 0, .int .u8 0, .int .u8 0, .int .u8 0, .int .u8 0, .int .u8 0, .int .u8 0, .int .u8 0, .int .u8 0, .int .u8 0, .int .u8 0, .int .u8 0]
  have k4 : Kept NoBlk w3 (w3.alloc (.cells #[.int .u8 0, .int .u8 0, .int .u8 0, .int .u8 0, .int .u8 0, .int .u8 0, .int .u8 0, .int .u8 0, .int .u8 0, .int .u8 0, .int .u8 0, .int .u8 0, .int .u8 0, .int .u8 0, .int .u8 0, .int .u8 0, .int .u8 0, .int .u8 0, .int .u8 0, .int .u8 0, .int .u8 0, .int .u8 0, .int .u8 0, .int .u8 0, .int .u8 0, .int .u8 0, .int .u8 0, .int .u8 0, .int .u8 0, .int .u8 0, .int .u8 0, .int .u8 0] 72)) := (Kept.refl _ w3).alloc _
  obtain ⟨w4, hw4⟩ : ∃ w4, w3.alloc (.cells #[.int .u8 0, .int .u8 0, .int .u8 0, .int .u8 0, .int .u8 0, .int .u8 0, .int .u8 0, .int .u8 0, .int .u8 0, .int .u8 0, .int .u8 0, .int .u8 0, .int .u8 0, .int .u8 0, .int .u8 0, .int .u8 0, .int .u8 0, .int .u8 0, .int .u8 0, .int .u8 0, .int .u8 0, .int .u8 0, .int .u8 0, .int .u8 0, .int .u8 0, .int .u8 0, .int .u8 0, .int .u8 0, .int .u8 0, .int .u8 0, .int .u8 0, .int .u8 0] 72) = w4 := ⟨_, rfl⟩
  rw [hw4] at hz4 k4
  rw [hg3] at hz4
  have k5 : Kept NoBlk w3 (w4.setRow g3 (F.map B).toArray) := k4.fresh (setRow_kept w4 g3 _) (by omega)
  have hd5 : Blk (w4.setRow g3 (F.map B).toArray) g3 72 (F.map B).toArray := setRow_heap w4 g3 _ _ 72 (0, 0) hz4
  have hF1 : (F.map B).toArray.all (·.oneCell') = true := Array.all_eq_true_iff_forall_mem.2 (fun v hv => oneCell_bytes _ v (by simpa using hv))
  have hFs : (F.map B).toArray.size = 32 := by rw [List.size_toArray, List.length_map, hFl]
  obtain ⟨w5, hw5⟩ : ∃ w5, w4.setRow g3 (F.map B).toArray = w5 := ⟨_, rfl⟩
  rw [hw5] at k5 hd5
  have c745 : w5.cell? ⟨g2, 74, none⟩ = some (.bool false) := (k5.cell (p := ⟨g2, 74, none⟩) hg23 (fun e => e)).trans c74
  have hat5 : BytesAt w5 (some ⟨g3, 0, none⟩) F := Blk.at_ hd5 _ (fun j u hu => by rw [List.getElem?_toArray]; exact hu)
  have k05 : Kept NoBlk w w5 := k23.trans k5
  have hown5 := own_still HOW.out k05
  have hN5 : N ≤ w5.heap.size := Nat.le_trans hN k05.size
  have HD4 := Lib.hid hz4
  have HA5 := Lib.hid hat5
  have HO5 := Lib.hid hown5
  have HK5 := Lib.hid k05
  clear k23 k5 k4 hz4 hd5 hat5 hown5 k05 k3 HOW HK2 HCG HZ1
  go_wp2_with (first | (refine wpList_store_row rfl 72 _ _ rfl g3 (F.map B).toArray rfl rfl 72 _ HD4.out (by rw [hFs]; exact hi32) (by rw [hFs]; rfl) hF1 ?_; rw [hw5]) | (at_builtin; refine wpList_append_bytes _ rfl _ _ rfl N _ xs rfl HO5.out _ 32 _ F rfl hFl.symm HA5.out (by omega) hN5 ?_; intro v2 w6 hown6 hgrow))
  go_ret
  refine ⟨v2, rfl, by rw [HF.out]; exact hown6, (HK5.out.mono (fun _ _ e => e.elim)).trans ?_⟩
  exact (Kept.of_grown hgrow (fun b hb => (HO5.out.lt b hb).1))

end Go.Proofs.Ytgkfnmmajehobaa
