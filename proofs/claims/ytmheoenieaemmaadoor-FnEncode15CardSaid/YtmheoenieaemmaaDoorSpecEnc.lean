/-
  spec.Encode15.
-/
import Derived.Test.YtmheoenieaemmaaDoorNames
import Derived.Test.YtmheoenieaemmaaDoorNum
namespace Go.Proofs.YtmheoenieaemmaaDoor
open Go.RowKit

/-- 0, 1, n bytes of 255, 0, the prefix, the hash. -/
def emOf (n : Nat) (pre dig : List UInt8) : List UInt8 := 0 :: 1 :: (List.replicate n 255 ++ 0 :: (pre ++ dig))
theorem emOf_length (n : Nat) (pre dig : List UInt8) : (emOf n pre dig).length = n + pre.length + dig.length + 3 := by simp [emOf]; omega

/-- What spec.Encode15 leaves. -/
def SpecEnc (k : Nat) (pre dig : List UInt8) (w : World) (e : Ending) (w' : World) : Prop :=
  (k < pre.length + dig.length + 11 ∧ e = .returned (.tuple #[.slice none 0 0, .bool false]) ∧ Kept NoBlk w w') ∨
  (pre.length + dig.length + 11 ≤ k ∧ ∃ A c, e = .returned (.tuple #[.slice A (emOf (k - pre.length - dig.length - 3) pre dig).length c, .bool true]) ∧ BytesAt w' A (emOf (k - pre.length - dig.length - 3) pre dig) ∧ Kept NoBlk w w')

set_option maxHeartbeats 800000 in
theorem specEnc_any (k : Nat) (A A' : Option Addr) (c c' : Nat) (pre dig : List UInt8) (w : World) (hp : BytesAt w A pre) (hd : BytesAt w A' dig) (hk : k ≤ 1000000) (hpl : pre.length ≤ 1000000) (hdl : dig.length ≤ 1000000) :
    Calls Tryd.prog 16 #[.int .i64 k, .slice A pre.length c, .slice A' dig.length c'] w (SpecEnc k pre dig w) := by
  have HP := Lib.hid hp
  have HD := Lib.hid hd
  clear hp hd
  by_cases h : k < pre.length + dig.length + 11
  · have hlt : (k : Int) - (pre.length : Int) - (dig.length : Int) - 3 < 8 := by omega
    go_enter Tryd.func16, Tryd.ntmps16
    go_wp2_with fail
    go_ret2
    exact .inl ⟨h, rfl, Kept.refl _ _⟩
  · obtain ⟨n, hn⟩ : ∃ n, k - pre.length - dig.length - 3 = n := ⟨_, rfl⟩
    have hnk : k = n + pre.length + dig.length + 3 := by omega
    have hi : (k : Int) - (pre.length : Int) - (dig.length : Int) - 3 = (n : Int) := by omega
    have hlt : ¬ (n : Int) < 8 := by omega
    have hn1 : n ≤ 1000000 := by omega
    have HN := Lib.hid hn
    have HH := Lib.hid h
    have hown := own_lit w [0, 1] (by decide)
    clear hn h hnk
    go_enter Tryd.func16, Tryd.ntmps16
    go_wp2_with fail
    go_loopw [9, 22] (fun v i wr => ∃ j : Nat, j ≤ n ∧ i = .int .i64 j ∧ wr.ownsRow w.heap.size 5 1 v (0 :: 1 :: List.replicate j (255 : UInt8)).length ((0 :: 1 :: List.replicate j (255 : UInt8)).map B) ∧ Kept NoBlk w wr) (fun _ i _ => n - (intOf i).toNat)
    case atStart => exact ⟨0, Nat.zero_le _, rfl, hown, (Kept.refl _ w).alloc _⟩
    case round =>
      obtain ⟨j, hj, rfl, ho, hkept⟩ := hrel
      have HK := Lib.hid hkept
      have HO := Lib.hid ho
      clear hkept hown
      by_cases hlt : j < n
      · have hs : ([(0 : UInt8), 1] ++ List.replicate j 255) ++ [255] = 0 :: 1 :: List.replicate (j + 1) (255 : UInt8) := by rw [List.replicate_succ']; simp
        have HS := Lib.hid hs
        clear hs ho
        go_wp2_with (at_builtin; refine wpList_append_bytes _ rfl _ _ rfl w.heap.size _ ([(0 : UInt8), 1] ++ List.replicate j 255) rfl (own_still HO.out ((Kept.refl NoBlk _).alloc _)) _ 1 _ [255] rfl rfl (bytesAt_new _ 5 [255] _ (by simp)) (by simp; omega) (by have := HK.out.size; simp; omega) ?_; intro v' w1 hown1 hgrow)
        go_roundw
        case rel => exact ⟨j + 1, by omega, by go_num, by rw [HS.out] at hown1; exact hown1, (HK.out.alloc _).grow (own_still HO.out ((Kept.refl NoBlk _).alloc _)) (Nat.le_refl _) hgrow⟩
        case measure => simp [intOf]; omega
      · obtain rfl : j = n := by omega
        obtain ⟨A1, c1, rfl, _, _, hat1, _⟩ := own_form ho
        have HAT := Lib.hid hat1
        have hl2 : (0 :: 1 :: List.replicate j (255 : UInt8)).length = j + 2 := by simp
        rw [hl2]
        clear ho hat1
        have hj := joined_any (wr.heap.size + 1) [(A1, c1, 0 :: 1 :: List.replicate j (255 : UInt8)), (some ⟨wr.heap.size, 0, none⟩, 1, [0]), (A, c, pre), (A', c', dig)]
          ((wr.alloc (.cells #[.int .u8 0] 5)).alloc (.cells #[.slice A1 (j + 2) c1, .slice (some ⟨wr.heap.size, 0, none⟩) 1 1, .slice A pre.length c, .slice A' dig.length c'] 23))
          (by
            have := at_new' (wr.alloc (.cells #[.int .u8 0] 5)) 23 ([(A1, c1, 0 :: 1 :: List.replicate j (255 : UInt8)), (some ⟨wr.heap.size, 0, none⟩, 1, [0]), (A, c, pre), (A', c', dig)].map BPiece.val) (wr.heap.size + 1) (by simp)
            simpa [BPiece.val] using this)
          (by simp)
          (by
            intro p hp
            simp only [List.mem_cons, List.not_mem_nil, or_false] at hp
            rcases hp with rfl | rfl | rfl | rfl
            · exact (BytesAt.alloc (show BytesAt wr A1 _ from HAT.out) _).alloc _
            · exact (bytesAt_new wr 5 [0] _ rfl).alloc _
            · exact ((HP.out.still HK.out).alloc _).alloc _
            · exact ((HD.out.still HK.out).alloc _).alloc _)
          (by simp [joinOf]; omega)
        have hjo : joinOf [(A1, c1, 0 :: 1 :: List.replicate j (255 : UInt8)), (some ⟨wr.heap.size, 0, none⟩, 1, [0]), (A, c, pre), (A', c', dig)] = emOf (k - pre.length - dig.length - 3) pre dig := by
          rw [HN.out]; simp [joinOf, emOf]
        rw [hjo] at hj
        have HJ := Lib.hid hj
        clear hj hjo
        go_wp2_with fail
        refine HJ.out.mono ?_
        rintro e w3 ⟨v, rfl, hown3, hk3⟩
        obtain ⟨A3, c3, rfl, _, _, hat3, _⟩ := own_form hown3
        have HK3 := Lib.hid hk3
        have HA3 := Lib.hid hat3
        clear hown3 hk3 hat3 HJ
        go_wp2_with fail
        go_ret2
        exact .inr ⟨by have := HH.out; omega, A3, c3, rfl, HA3.out, ((HK.out.alloc _).alloc _).none HK3.out⟩

end Go.Proofs.YtmheoenieaemmaaDoor
