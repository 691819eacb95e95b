/-
  spec.Prefix.
-/
import Derived.Test.YtmheoenieaemmaaDoorNames
namespace Go.Proofs.YtmheoenieaemmaaDoor
open Go.RowKit

set_option maxHeartbeats 800000 in
theorem specPrefix_0 (w : World) : Calls Tryd.prog 12 #[.string ⟨#[77, 68, 53]⟩] w (GivesSpecPfx [48, 32, 48, 12, 6, 8, 42, 134, 72, 134, 247, 13, 2, 5, 5, 0, 4, 16] 16 w) := by
  go_enter Tryd.func12, Tryd.ntmps12
  go_wp2_with fail
  have hj := joined_any (w.heap.size + 1 + 1 + 1 + 1) [(some ⟨w.heap.size + 1 + 1, 0, none⟩, 6, [48, 32, 48, 12, 6, 8]), ((some ⟨w.heap.size + 1, 0, none⟩), 8, [42, 134, 72, 134, 247, 13, 2, 5]), (some ⟨w.heap.size + 1 + 1 + 1, 0, none⟩, 4, [5, 0, 4, 16])]
    (((((w.alloc (.cells #[.int .u8 96, .int .u8 134, .int .u8 72, .int .u8 1, .int .u8 101, .int .u8 3, .int .u8 4, .int .u8 2] 5)).alloc (.cells #[.int .u8 42, .int .u8 134, .int .u8 72, .int .u8 134, .int .u8 247, .int .u8 13, .int .u8 2, .int .u8 5] 5)).alloc (.cells #[.int .u8 48, .int .u8 32, .int .u8 48, .int .u8 12, .int .u8 6, .int .u8 8] 5)).alloc (.cells #[.int .u8 5, .int .u8 0, .int .u8 4, .int .u8 16] 5)).alloc (.cells #[.slice (some ⟨w.heap.size + 1 + 1, 0, none⟩) 6 6, .slice (some ⟨w.heap.size + 1, 0, none⟩) 8 8, .slice (some ⟨w.heap.size + 1 + 1 + 1, 0, none⟩) 4 4] 23))
    (at_new' _ 23 ([(some ⟨w.heap.size + 1 + 1, 0, none⟩, 6, [48, 32, 48, 12, 6, 8]), ((some ⟨w.heap.size + 1, 0, none⟩), 8, [42, 134, 72, 134, 247, 13, 2, 5]), (some ⟨w.heap.size + 1 + 1 + 1, 0, none⟩, 4, [5, 0, 4, 16])].map BPiece.val) _ (by simp))
    (by simp)
    (by
      intro p hp
      simp only [List.mem_cons, List.not_mem_nil, or_false] at hp
      rcases hp with rfl | rfl | rfl
      · exact ((bytesAt_new _ 5 [48, 32, 48, 12, 6, 8] _ (by simp)).alloc _).alloc _
      · exact ((BytesAt.alloc (bytesAt_new _ 5 [42, 134, 72, 134, 247, 13, 2, 5] _ (by simp)) _).alloc _).alloc _
      · exact (bytesAt_new _ 5 [5, 0, 4, 16] _ (by simp)).alloc _)
    (by simp [joinOf])
  refine hj.mono ?_
  rintro e w3 ⟨v, rfl, hown3, hk3⟩
  obtain ⟨A3, c3, rfl, hn3, hm3, hat3, _⟩ := own_form hown3
  have HK3 := Lib.hid hk3
  have HA3 := Lib.hid hat3
  clear hj hown3 hk3 hat3
  go_wp2_with fail
  go_ret3
  exact ⟨A3, c3, rfl, HA3.out, hn3, hm3, (((((((Kept.refl _ w).alloc _).alloc _)).alloc _).alloc _).alloc _).none HK3.out⟩

set_option maxHeartbeats 800000 in
theorem specPrefix_1 (w : World) : Calls Tryd.prog 12 #[.string ⟨#[83, 72, 65, 45, 49]⟩] w (GivesSpecPfx [48, 33, 48, 9, 6, 5, 43, 14, 3, 2, 26, 5, 0, 4, 20] 20 w) := by
  go_enter Tryd.func12, Tryd.ntmps12
  go_wp2_with fail
  have hj := joined_any (w.heap.size + 1 + 1 + 1 + 1) [(some ⟨w.heap.size + 1 + 1, 0, none⟩, 6, [48, 33, 48, 9, 6, 5]), ((some ⟨w.heap.size + 1, 0, none⟩), 5, [43, 14, 3, 2, 26]), (some ⟨w.heap.size + 1 + 1 + 1, 0, none⟩, 4, [5, 0, 4, 20])]
    (((((w.alloc (.cells #[.int .u8 96, .int .u8 134, .int .u8 72, .int .u8 1, .int .u8 101, .int .u8 3, .int .u8 4, .int .u8 2] 5)).alloc (.cells #[.int .u8 43, .int .u8 14, .int .u8 3, .int .u8 2, .int .u8 26] 5)).alloc (.cells #[.int .u8 48, .int .u8 33, .int .u8 48, .int .u8 9, .int .u8 6, .int .u8 5] 5)).alloc (.cells #[.int .u8 5, .int .u8 0, .int .u8 4, .int .u8 20] 5)).alloc (.cells #[.slice (some ⟨w.heap.size + 1 + 1, 0, none⟩) 6 6, .slice (some ⟨w.heap.size + 1, 0, none⟩) 5 5, .slice (some ⟨w.heap.size + 1 + 1 + 1, 0, none⟩) 4 4] 23))
    (at_new' _ 23 ([(some ⟨w.heap.size + 1 + 1, 0, none⟩, 6, [48, 33, 48, 9, 6, 5]), ((some ⟨w.heap.size + 1, 0, none⟩), 5, [43, 14, 3, 2, 26]), (some ⟨w.heap.size + 1 + 1 + 1, 0, none⟩, 4, [5, 0, 4, 20])].map BPiece.val) _ (by simp))
    (by simp)
    (by
      intro p hp
      simp only [List.mem_cons, List.not_mem_nil, or_false] at hp
      rcases hp with rfl | rfl | rfl
      · exact ((bytesAt_new _ 5 [48, 33, 48, 9, 6, 5] _ (by simp)).alloc _).alloc _
      · exact ((BytesAt.alloc (bytesAt_new _ 5 [43, 14, 3, 2, 26] _ (by simp)) _).alloc _).alloc _
      · exact (bytesAt_new _ 5 [5, 0, 4, 20] _ (by simp)).alloc _)
    (by simp [joinOf])
  refine hj.mono ?_
  rintro e w3 ⟨v, rfl, hown3, hk3⟩
  obtain ⟨A3, c3, rfl, hn3, hm3, hat3, _⟩ := own_form hown3
  have HK3 := Lib.hid hk3
  have HA3 := Lib.hid hat3
  clear hj hown3 hk3 hat3
  go_wp2_with fail
  go_ret3
  exact ⟨A3, c3, rfl, HA3.out, hn3, hm3, (((((((Kept.refl _ w).alloc _).alloc _)).alloc _).alloc _).alloc _).none HK3.out⟩

set_option maxHeartbeats 800000 in
theorem specPrefix_2 (w : World) : Calls Tryd.prog 12 #[.string ⟨#[83, 72, 65, 45, 50, 50, 52]⟩] w (GivesSpecPfx [48, 45, 48, 13, 6, 9, 96, 134, 72, 1, 101, 3, 4, 2, 4, 5, 0, 4, 28] 28 w) := by
  have hown := own_lit w [96, 134, 72, 1, 101, 3, 4, 2] (by decide)
  go_enter Tryd.func12, Tryd.ntmps12
  go_wp2_with (at_builtin; refine wpList_append_slice _ rfl _ _ rfl w.heap.size _ [96, 134, 72, 1, 101, 3, 4, 2] rfl (hown.alloc _) _ 1 _ [4] rfl rfl (bytesAt_new _ 5 [4] _ (by simp)) 9 rfl (by simp) (by simp; omega) ?_; intro A1 c1 w1 hown1 hgrow)
  have hat := (own_form hown1)
  obtain ⟨A2, c2, e2, _, _, hat, _⟩ := hat
  cases e2
  have hk1 : Kept NoBlk w w1 := (((Kept.refl _ w).alloc _).alloc _).grow (hown.alloc _) (Nat.le_refl _) hgrow
  have HK1 := Lib.hid hk1
  have HAT := Lib.hid hat
  clear hown hown1 hgrow hk1 hat
  have hj := joined_any (w1.heap.size + 1 + 1) [(some ⟨w1.heap.size, 0, none⟩, 6, [48, 45, 48, 13, 6, 9]), (A1, c1, [96, 134, 72, 1, 101, 3, 4, 2, 4]), (some ⟨w1.heap.size + 1, 0, none⟩, 4, [5, 0, 4, 28])]
    (((w1.alloc (.cells #[.int .u8 48, .int .u8 45, .int .u8 48, .int .u8 13, .int .u8 6, .int .u8 9] 5)).alloc (.cells #[.int .u8 5, .int .u8 0, .int .u8 4, .int .u8 28] 5)).alloc (.cells #[.slice (some ⟨w1.heap.size, 0, none⟩) 6 6, .slice A1 9 c1, .slice (some ⟨w1.heap.size + 1, 0, none⟩) 4 4] 23))
    (at_new' _ 23 ([(some ⟨w1.heap.size, 0, none⟩, 6, [48, 45, 48, 13, 6, 9]), (A1, c1, [96, 134, 72, 1, 101, 3, 4, 2, 4]), (some ⟨w1.heap.size + 1, 0, none⟩, 4, [5, 0, 4, 28])].map BPiece.val) _ (by simp))
    (by simp)
    (by
      intro p hp
      simp only [List.mem_cons, List.not_mem_nil, or_false] at hp
      rcases hp with rfl | rfl | rfl
      · exact ((bytesAt_new _ 5 [48, 45, 48, 13, 6, 9] _ (by simp)).alloc _).alloc _
      · exact ((BytesAt.alloc HAT.out _).alloc _).alloc _
      · exact (bytesAt_new _ 5 [5, 0, 4, 28] _ (by simp)).alloc _)
    (by simp [joinOf])
  refine hj.mono ?_
  rintro e w3 ⟨v, rfl, hown3, hk3⟩
  obtain ⟨A3, c3, rfl, hn3, hm3, hat3, _⟩ := own_form hown3
  have HK3 := Lib.hid hk3
  have HA3 := Lib.hid hat3
  clear hj hown3 hk3 hat3
  go_wp2_with fail
  go_ret3
  exact ⟨A3, c3, rfl, HA3.out, hn3, hm3, ((((HK1.out).alloc _).alloc _).alloc _).none HK3.out⟩

set_option maxHeartbeats 800000 in
theorem specPrefix_3 (w : World) : Calls Tryd.prog 12 #[.string ⟨#[83, 72, 65, 45, 50, 53, 54]⟩] w (GivesSpecPfx [48, 49, 48, 13, 6, 9, 96, 134, 72, 1, 101, 3, 4, 2, 1, 5, 0, 4, 32] 32 w) := by
  have hown := own_lit w [96, 134, 72, 1, 101, 3, 4, 2] (by decide)
  go_enter Tryd.func12, Tryd.ntmps12
  go_wp2_with (at_builtin; refine wpList_append_slice _ rfl _ _ rfl w.heap.size _ [96, 134, 72, 1, 101, 3, 4, 2] rfl (hown.alloc _) _ 1 _ [1] rfl rfl (bytesAt_new _ 5 [1] _ (by simp)) 9 rfl (by simp) (by simp; omega) ?_; intro A1 c1 w1 hown1 hgrow)
  have hat := (own_form hown1)
  obtain ⟨A2, c2, e2, _, _, hat, _⟩ := hat
  cases e2
  have hk1 : Kept NoBlk w w1 := (((Kept.refl _ w).alloc _).alloc _).grow (hown.alloc _) (Nat.le_refl _) hgrow
  have HK1 := Lib.hid hk1
  have HAT := Lib.hid hat
  clear hown hown1 hgrow hk1 hat
  have hj := joined_any (w1.heap.size + 1 + 1) [(some ⟨w1.heap.size, 0, none⟩, 6, [48, 49, 48, 13, 6, 9]), (A1, c1, [96, 134, 72, 1, 101, 3, 4, 2, 1]), (some ⟨w1.heap.size + 1, 0, none⟩, 4, [5, 0, 4, 32])]
    (((w1.alloc (.cells #[.int .u8 48, .int .u8 49, .int .u8 48, .int .u8 13, .int .u8 6, .int .u8 9] 5)).alloc (.cells #[.int .u8 5, .int .u8 0, .int .u8 4, .int .u8 32] 5)).alloc (.cells #[.slice (some ⟨w1.heap.size, 0, none⟩) 6 6, .slice A1 9 c1, .slice (some ⟨w1.heap.size + 1, 0, none⟩) 4 4] 23))
    (at_new' _ 23 ([(some ⟨w1.heap.size, 0, none⟩, 6, [48, 49, 48, 13, 6, 9]), (A1, c1, [96, 134, 72, 1, 101, 3, 4, 2, 1]), (some ⟨w1.heap.size + 1, 0, none⟩, 4, [5, 0, 4, 32])].map BPiece.val) _ (by simp))
    (by simp)
    (by
      intro p hp
      simp only [List.mem_cons, List.not_mem_nil, or_false] at hp
      rcases hp with rfl | rfl | rfl
      · exact ((bytesAt_new _ 5 [48, 49, 48, 13, 6, 9] _ (by simp)).alloc _).alloc _
      · exact ((BytesAt.alloc HAT.out _).alloc _).alloc _
      · exact (bytesAt_new _ 5 [5, 0, 4, 32] _ (by simp)).alloc _)
    (by simp [joinOf])
  refine hj.mono ?_
  rintro e w3 ⟨v, rfl, hown3, hk3⟩
  obtain ⟨A3, c3, rfl, hn3, hm3, hat3, _⟩ := own_form hown3
  have HK3 := Lib.hid hk3
  have HA3 := Lib.hid hat3
  clear hj hown3 hk3 hat3
  go_wp2_with fail
  go_ret3
  exact ⟨A3, c3, rfl, HA3.out, hn3, hm3, ((((HK1.out).alloc _).alloc _).alloc _).none HK3.out⟩

set_option maxHeartbeats 800000 in
theorem specPrefix_4 (w : World) : Calls Tryd.prog 12 #[.string ⟨#[83, 72, 65, 45, 51, 56, 52]⟩] w (GivesSpecPfx [48, 65, 48, 13, 6, 9, 96, 134, 72, 1, 101, 3, 4, 2, 2, 5, 0, 4, 48] 48 w) := by
  have hown := own_lit w [96, 134, 72, 1, 101, 3, 4, 2] (by decide)
  go_enter Tryd.func12, Tryd.ntmps12
  go_wp2_with (at_builtin; refine wpList_append_slice _ rfl _ _ rfl w.heap.size _ [96, 134, 72, 1, 101, 3, 4, 2] rfl (hown.alloc _) _ 1 _ [2] rfl rfl (bytesAt_new _ 5 [2] _ (by simp)) 9 rfl (by simp) (by simp; omega) ?_; intro A1 c1 w1 hown1 hgrow)
  have hat := (own_form hown1)
  obtain ⟨A2, c2, e2, _, _, hat, _⟩ := hat
  cases e2
  have hk1 : Kept NoBlk w w1 := (((Kept.refl _ w).alloc _).alloc _).grow (hown.alloc _) (Nat.le_refl _) hgrow
  have HK1 := Lib.hid hk1
  have HAT := Lib.hid hat
  clear hown hown1 hgrow hk1 hat
  have hj := joined_any (w1.heap.size + 1 + 1) [(some ⟨w1.heap.size, 0, none⟩, 6, [48, 65, 48, 13, 6, 9]), (A1, c1, [96, 134, 72, 1, 101, 3, 4, 2, 2]), (some ⟨w1.heap.size + 1, 0, none⟩, 4, [5, 0, 4, 48])]
    (((w1.alloc (.cells #[.int .u8 48, .int .u8 65, .int .u8 48, .int .u8 13, .int .u8 6, .int .u8 9] 5)).alloc (.cells #[.int .u8 5, .int .u8 0, .int .u8 4, .int .u8 48] 5)).alloc (.cells #[.slice (some ⟨w1.heap.size, 0, none⟩) 6 6, .slice A1 9 c1, .slice (some ⟨w1.heap.size + 1, 0, none⟩) 4 4] 23))
    (at_new' _ 23 ([(some ⟨w1.heap.size, 0, none⟩, 6, [48, 65, 48, 13, 6, 9]), (A1, c1, [96, 134, 72, 1, 101, 3, 4, 2, 2]), (some ⟨w1.heap.size + 1, 0, none⟩, 4, [5, 0, 4, 48])].map BPiece.val) _ (by simp))
    (by simp)
    (by
      intro p hp
      simp only [List.mem_cons, List.not_mem_nil, or_false] at hp
      rcases hp with rfl | rfl | rfl
      · exact ((bytesAt_new _ 5 [48, 65, 48, 13, 6, 9] _ (by simp)).alloc _).alloc _
      · exact ((BytesAt.alloc HAT.out _).alloc _).alloc _
      · exact (bytesAt_new _ 5 [5, 0, 4, 48] _ (by simp)).alloc _)
    (by simp [joinOf])
  refine hj.mono ?_
  rintro e w3 ⟨v, rfl, hown3, hk3⟩
  obtain ⟨A3, c3, rfl, hn3, hm3, hat3, _⟩ := own_form hown3
  have HK3 := Lib.hid hk3
  have HA3 := Lib.hid hat3
  clear hj hown3 hk3 hat3
  go_wp2_with fail
  go_ret3
  exact ⟨A3, c3, rfl, HA3.out, hn3, hm3, ((((HK1.out).alloc _).alloc _).alloc _).none HK3.out⟩

set_option maxHeartbeats 800000 in
theorem specPrefix_5 (w : World) : Calls Tryd.prog 12 #[.string ⟨#[83, 72, 65, 45, 53, 49, 50]⟩] w (GivesSpecPfx [48, 81, 48, 13, 6, 9, 96, 134, 72, 1, 101, 3, 4, 2, 3, 5, 0, 4, 64] 64 w) := by
  have hown := own_lit w [96, 134, 72, 1, 101, 3, 4, 2] (by decide)
  go_enter Tryd.func12, Tryd.ntmps12
  go_wp2_with (at_builtin; refine wpList_append_slice _ rfl _ _ rfl w.heap.size _ [96, 134, 72, 1, 101, 3, 4, 2] rfl (hown.alloc _) _ 1 _ [3] rfl rfl (bytesAt_new _ 5 [3] _ (by simp)) 9 rfl (by simp) (by simp; omega) ?_; intro A1 c1 w1 hown1 hgrow)
  have hat := (own_form hown1)
  obtain ⟨A2, c2, e2, _, _, hat, _⟩ := hat
  cases e2
  have hk1 : Kept NoBlk w w1 := (((Kept.refl _ w).alloc _).alloc _).grow (hown.alloc _) (Nat.le_refl _) hgrow
  have HK1 := Lib.hid hk1
  have HAT := Lib.hid hat
  clear hown hown1 hgrow hk1 hat
  have hj := joined_any (w1.heap.size + 1 + 1) [(some ⟨w1.heap.size, 0, none⟩, 6, [48, 81, 48, 13, 6, 9]), (A1, c1, [96, 134, 72, 1, 101, 3, 4, 2, 3]), (some ⟨w1.heap.size + 1, 0, none⟩, 4, [5, 0, 4, 64])]
    (((w1.alloc (.cells #[.int .u8 48, .int .u8 81, .int .u8 48, .int .u8 13, .int .u8 6, .int .u8 9] 5)).alloc (.cells #[.int .u8 5, .int .u8 0, .int .u8 4, .int .u8 64] 5)).alloc (.cells #[.slice (some ⟨w1.heap.size, 0, none⟩) 6 6, .slice A1 9 c1, .slice (some ⟨w1.heap.size + 1, 0, none⟩) 4 4] 23))
    (at_new' _ 23 ([(some ⟨w1.heap.size, 0, none⟩, 6, [48, 81, 48, 13, 6, 9]), (A1, c1, [96, 134, 72, 1, 101, 3, 4, 2, 3]), (some ⟨w1.heap.size + 1, 0, none⟩, 4, [5, 0, 4, 64])].map BPiece.val) _ (by simp))
    (by simp)
    (by
      intro p hp
      simp only [List.mem_cons, List.not_mem_nil, or_false] at hp
      rcases hp with rfl | rfl | rfl
      · exact ((bytesAt_new _ 5 [48, 81, 48, 13, 6, 9] _ (by simp)).alloc _).alloc _
      · exact ((BytesAt.alloc HAT.out _).alloc _).alloc _
      · exact (bytesAt_new _ 5 [5, 0, 4, 64] _ (by simp)).alloc _)
    (by simp [joinOf])
  refine hj.mono ?_
  rintro e w3 ⟨v, rfl, hown3, hk3⟩
  obtain ⟨A3, c3, rfl, hn3, hm3, hat3, _⟩ := own_form hown3
  have HK3 := Lib.hid hk3
  have HA3 := Lib.hid hat3
  clear hj hown3 hk3 hat3
  go_wp2_with fail
  go_ret3
  exact ⟨A3, c3, rfl, HA3.out, hn3, hm3, ((((HK1.out).alloc _).alloc _).alloc _).none HK3.out⟩

set_option maxHeartbeats 800000 in
theorem specPrefix_6 (w : World) : Calls Tryd.prog 12 #[.string ⟨#[83, 72, 65, 45, 53, 49, 50, 47, 50, 50, 52]⟩] w (GivesSpecPfx [48, 45, 48, 13, 6, 9, 96, 134, 72, 1, 101, 3, 4, 2, 5, 5, 0, 4, 28] 28 w) := by
  have hown := own_lit w [96, 134, 72, 1, 101, 3, 4, 2] (by decide)
  go_enter Tryd.func12, Tryd.ntmps12
  go_wp2_with (at_builtin; refine wpList_append_slice _ rfl _ _ rfl w.heap.size _ [96, 134, 72, 1, 101, 3, 4, 2] rfl (hown.alloc _) _ 1 _ [5] rfl rfl (bytesAt_new _ 5 [5] _ (by simp)) 9 rfl (by simp) (by simp; omega) ?_; intro A1 c1 w1 hown1 hgrow)
  have hat := (own_form hown1)
  obtain ⟨A2, c2, e2, _, _, hat, _⟩ := hat
  cases e2
  have hk1 : Kept NoBlk w w1 := (((Kept.refl _ w).alloc _).alloc _).grow (hown.alloc _) (Nat.le_refl _) hgrow
  have HK1 := Lib.hid hk1
  have HAT := Lib.hid hat
  clear hown hown1 hgrow hk1 hat
  have hj := joined_any (w1.heap.size + 1 + 1) [(some ⟨w1.heap.size, 0, none⟩, 6, [48, 45, 48, 13, 6, 9]), (A1, c1, [96, 134, 72, 1, 101, 3, 4, 2, 5]), (some ⟨w1.heap.size + 1, 0, none⟩, 4, [5, 0, 4, 28])]
    (((w1.alloc (.cells #[.int .u8 48, .int .u8 45, .int .u8 48, .int .u8 13, .int .u8 6, .int .u8 9] 5)).alloc (.cells #[.int .u8 5, .int .u8 0, .int .u8 4, .int .u8 28] 5)).alloc (.cells #[.slice (some ⟨w1.heap.size, 0, none⟩) 6 6, .slice A1 9 c1, .slice (some ⟨w1.heap.size + 1, 0, none⟩) 4 4] 23))
    (at_new' _ 23 ([(some ⟨w1.heap.size, 0, none⟩, 6, [48, 45, 48, 13, 6, 9]), (A1, c1, [96, 134, 72, 1, 101, 3, 4, 2, 5]), (some ⟨w1.heap.size + 1, 0, none⟩, 4, [5, 0, 4, 28])].map BPiece.val) _ (by simp))
    (by simp)
    (by
      intro p hp
      simp only [List.mem_cons, List.not_mem_nil, or_false] at hp
      rcases hp with rfl | rfl | rfl
      · exact ((bytesAt_new _ 5 [48, 45, 48, 13, 6, 9] _ (by simp)).alloc _).alloc _
      · exact ((BytesAt.alloc HAT.out _).alloc _).alloc _
      · exact (bytesAt_new _ 5 [5, 0, 4, 28] _ (by simp)).alloc _)
    (by simp [joinOf])
  refine hj.mono ?_
  rintro e w3 ⟨v, rfl, hown3, hk3⟩
  obtain ⟨A3, c3, rfl, hn3, hm3, hat3, _⟩ := own_form hown3
  have HK3 := Lib.hid hk3
  have HA3 := Lib.hid hat3
  clear hj hown3 hk3 hat3
  go_wp2_with fail
  go_ret3
  exact ⟨A3, c3, rfl, HA3.out, hn3, hm3, ((((HK1.out).alloc _).alloc _).alloc _).none HK3.out⟩

set_option maxHeartbeats 800000 in
theorem specPrefix_7 (w : World) : Calls Tryd.prog 12 #[.string ⟨#[83, 72, 65, 45, 53, 49, 50, 47, 50, 53, 54]⟩] w (GivesSpecPfx [48, 49, 48, 13, 6, 9, 96, 134, 72, 1, 101, 3, 4, 2, 6, 5, 0, 4, 32] 32 w) := by
  have hown := own_lit w [96, 134, 72, 1, 101, 3, 4, 2] (by decide)
  go_enter Tryd.func12, Tryd.ntmps12
  go_wp2_with (at_builtin; refine wpList_append_slice _ rfl _ _ rfl w.heap.size _ [96, 134, 72, 1, 101, 3, 4, 2] rfl (hown.alloc _) _ 1 _ [6] rfl rfl (bytesAt_new _ 5 [6] _ (by simp)) 9 rfl (by simp) (by simp; omega) ?_; intro A1 c1 w1 hown1 hgrow)
  have hat := (own_form hown1)
  obtain ⟨A2, c2, e2, _, _, hat, _⟩ := hat
  cases e2
  have hk1 : Kept NoBlk w w1 := (((Kept.refl _ w).alloc _).alloc _).grow (hown.alloc _) (Nat.le_refl _) hgrow
  have HK1 := Lib.hid hk1
  have HAT := Lib.hid hat
  clear hown hown1 hgrow hk1 hat
  have hj := joined_any (w1.heap.size + 1 + 1) [(some ⟨w1.heap.size, 0, none⟩, 6, [48, 49, 48, 13, 6, 9]), (A1, c1, [96, 134, 72, 1, 101, 3, 4, 2, 6]), (some ⟨w1.heap.size + 1, 0, none⟩, 4, [5, 0, 4, 32])]
    (((w1.alloc (.cells #[.int .u8 48, .int .u8 49, .int .u8 48, .int .u8 13, .int .u8 6, .int .u8 9] 5)).alloc (.cells #[.int .u8 5, .int .u8 0, .int .u8 4, .int .u8 32] 5)).alloc (.cells #[.slice (some ⟨w1.heap.size, 0, none⟩) 6 6, .slice A1 9 c1, .slice (some ⟨w1.heap.size + 1, 0, none⟩) 4 4] 23))
    (at_new' _ 23 ([(some ⟨w1.heap.size, 0, none⟩, 6, [48, 49, 48, 13, 6, 9]), (A1, c1, [96, 134, 72, 1, 101, 3, 4, 2, 6]), (some ⟨w1.heap.size + 1, 0, none⟩, 4, [5, 0, 4, 32])].map BPiece.val) _ (by simp))
    (by simp)
    (by
      intro p hp
      simp only [List.mem_cons, List.not_mem_nil, or_false] at hp
      rcases hp with rfl | rfl | rfl
      · exact ((bytesAt_new _ 5 [48, 49, 48, 13, 6, 9] _ (by simp)).alloc _).alloc _
      · exact ((BytesAt.alloc HAT.out _).alloc _).alloc _
      · exact (bytesAt_new _ 5 [5, 0, 4, 32] _ (by simp)).alloc _)
    (by simp [joinOf])
  refine hj.mono ?_
  rintro e w3 ⟨v, rfl, hown3, hk3⟩
  obtain ⟨A3, c3, rfl, hn3, hm3, hat3, _⟩ := own_form hown3
  have HK3 := Lib.hid hk3
  have HA3 := Lib.hid hat3
  clear hj hown3 hk3 hat3
  go_wp2_with fail
  go_ret3
  exact ⟨A3, c3, rfl, HA3.out, hn3, hm3, ((((HK1.out).alloc _).alloc _).alloc _).none HK3.out⟩

theorem specPrefix_name (i : Nat) (hi : i < 8) (w : World) : Calls Tryd.prog 12 #[.string (hName i)] w (GivesSpecPfx (hPfx i) (hSize i) w) := by
  have h : i = 0 ∨ i = 1 ∨ i = 2 ∨ i = 3 ∨ i = 4 ∨ i = 5 ∨ i = 6 ∨ i = 7 := by omega
  rcases h with rfl | rfl | rfl | rfl | rfl | rfl | rfl | rfl
  · exact specPrefix_0 w
  · exact specPrefix_1 w
  · exact specPrefix_2 w
  · exact specPrefix_3 w
  · exact specPrefix_4 w
  · exact specPrefix_5 w
  · exact specPrefix_6 w
  · exact specPrefix_7 w
end Go.Proofs.YtmheoenieaemmaaDoor
