/-
  spec.Bits, sizes, Size; the hashes' sizes.
-/
import Derived.Test.YtmheoenieaemmaaDoorBelow
import Derived.BigQuiet
import Derived.Deep.QuietTactic
import Derived.Deep.RegionHeld3
namespace Go.Proofs.YtmheoenieaemmaaDoor
open Go.RowKit

theorem bits_any (w : World) (A : Option Addr) (c : Nat) (xs : List UInt8) (hx : BytesAt w A xs) (hc : xs.length ≤ c) (hl : xs.length ≤ 1000000) :
    Calls Tryd.prog 19 #[.slice A xs.length c] w fun e w' => e = .returned (.int .i64 (bitLen (num xs) : Int)) ∧ Kept NoBlk w w' := by
  have HX := Lib.hid (trimmed_any w A c xs hx hc (by omega))
  have htl := trim_le xs
  have htt := trim_tight xs
  rw [← num_trim xs]
  obtain ⟨ys, hys⟩ : ∃ ys, trim xs = ys := ⟨_, rfl⟩
  rw [hys] at HX htl htt ⊢
  clear hx hys
  go_enter Tryd.func19, Tryd.ntmps19
  go_wp2_with fail
  refine HX.out.mono ?_
  rintro e w1 ⟨A1, c1, rfl, hat, hc1, hk⟩
  have HK := Lib.hid hk
  clear hk HX
  cases ys with
  | nil =>
    clear hat
    go_wp2_with fail
    go_ret
    exact ⟨rfl, HK.out⟩
  | cons y ys =>
    obtain ⟨b, off, rfl, hb, hcell⟩ := hat.at_ (k := 0) (by simp)
    have c0 : w1.cell? ⟨b, off, none⟩ = some (.int .u8 (y.toNat : Int)) := hcell 0 y rfl
    have HBL := Lib.hid (bitLen_cons y ys htt)
    have hl1 : (y :: ys).length = ys.length + 1 := rfl
    rw [hl1] at htl hc1 ⊢
    have by_ := byte_le y
    obtain ⟨Y, hY⟩ : ∃ Y, y.toNat = Y := ⟨_, rfl⟩
    rw [hY] at c0 by_
    have hl2 : ((ys.length + 1 : Nat) : Int) - 1 = (ys.length : Int) := by omega
    have HY := Lib.hid hY
    clear hat hcell htt hl1 hY
    go_wp2_with fail
    go_loop [3, 4] (fun nv bv => ∃ (t Z : Nat), nv = .int .i64 ((8 * ys.length + t : Nat) : Int) ∧ bv = .int .u8 (Z : Int) ∧ Z ≤ 255 ∧ t + bitLen Z = bitLen Y ∧ t ≤ 8) (fun _ bv => (intOf bv).toNat)
    case atStart => exact ⟨0, Y, by go_num, rfl, by_, by omega, by omega⟩
    case round =>
      obtain ⟨t, Z, rfl, rfl, hz, ht, ht8⟩ := hrel
      rcases Nat.eq_zero_or_pos Z with h0 | h0
      · subst h0
        rw [bitLen_zero, Nat.add_zero] at ht
        subst ht
        go_wp2_with fail
        go_ret
        exact ⟨by rw [HBL.out, HY.out]; rfl, HK.out⟩
      · have hh := bitLen_half Z h0
        have h8 : bitLen Y ≤ 8 := (bitLen_le Y 8).2 (by omega)
        have hzi : (0 : Int) < (Z : Int) := by omega
        have HT := Lib.hid ht
        have HH := Lib.hid hh
        clear ht hh
        go_wp2_with fail
        go_round
        case rel => exact ⟨t + 1, Z / 2, by go_num, by go_num, by omega, by have := HT.out; have := HH.out; omega, by have := HT.out; have := HH.out; omega⟩
        case measure => first | (simp [intOf]; done) | (simp [intOf]; omega)

/-- A hash's size. -/
def hszOf (k s b : Int) : Nat := if k = 1 then 32 else if s < 1 ∨ 16 < s ∨ b < s ∨ 32 < b then 1 else s.toNat

def SzOut (n : Nat) (w : World) (e : Ending) (w' : World) : Prop := ∃ y, e = .returned (.tuple #[.int .i64 (n : Int), y]) ∧ Kept NoBlk w w'
theorem specSizes_any (k s b : Int) (w : World) (_hk : -9223372036854775808 ≤ s ∧ s ≤ 9223372036854775807) :
    Calls Tryd.prog 35 #[.agg #[.int .i64 k, .int .i64 s, .int .i64 b]] w (SzOut (hszOf k s b) w) := by
  have hb := Blk.new w 38 #[.int .i64 k, .int .i64 s, .int .i64 b]
  have c0 : (w.alloc (.cells #[.int .i64 k, .int .i64 s, .int .i64 b] 38)).cell? ⟨w.heap.size, 0, none⟩ = some (.int .i64 k) := hb.cellIs rfl
  have c1 : (w.alloc (.cells #[.int .i64 k, .int .i64 s, .int .i64 b] 38)).cell? ⟨w.heap.size, 1, none⟩ = some (.int .i64 s) := hb.cellIs rfl
  have c2 : (w.alloc (.cells #[.int .i64 k, .int .i64 s, .int .i64 b] 38)).cell? ⟨w.heap.size, 2, none⟩ = some (.int .i64 b) := hb.cellIs rfl
  clear hb
  unfold hszOf
  by_cases h1 : k = 1
  · subst h1
    rw [if_pos rfl]
    go_enter Tryd.func35, Tryd.ntmps35
    go_wp2_with fail
    go_ret2
    exact ⟨_, rfl, (Kept.refl _ _).alloc _⟩
  · rw [if_neg h1]
    have e1 : (k == 1) = false := by rw [beq_eq_false_iff_ne]; exact h1
    by_cases h2 : s < 1 ∨ 16 < s ∨ b < s ∨ 32 < b
    · rw [if_pos h2]
      clear h1
      by_cases a1 : s < 1
      · clear h2
        go_enter Tryd.func35, Tryd.ntmps35
        go_wp2_with fail
        go_ret2
        exact ⟨_, rfl, (Kept.refl _ _).alloc _⟩
      · by_cases a2 : 16 < s
        · clear h2
          go_enter Tryd.func35, Tryd.ntmps35
          go_wp2_with fail
          go_ret2
          exact ⟨_, rfl, (Kept.refl _ _).alloc _⟩
        · by_cases a3 : b < s
          · clear h2
            go_enter Tryd.func35, Tryd.ntmps35
            go_wp2_with fail
            go_ret2
            exact ⟨_, rfl, (Kept.refl _ _).alloc _⟩
          · have a4 : 32 < b := by omega
            clear h2
            go_enter Tryd.func35, Tryd.ntmps35
            go_wp2_with fail
            go_ret2
            exact ⟨_, rfl, (Kept.refl _ _).alloc _⟩
    · rw [if_neg h2]
      have a1 : ¬ s < 1 := by omega
      have a2 : ¬ 16 < s := by omega
      have a3 : ¬ b < s := by omega
      have a4 : ¬ 32 < b := by omega
      have a5 : ((s.toNat : Nat) : Int) = s := by omega
      clear h1 h2
      go_enter Tryd.func35, Tryd.ntmps35
      go_wp2_with fail
      go_quiet (fail)
      go_wp2_with fail
      go_ret2
      exact ⟨_, by rw [a5]; rfl, ((Kept.refl _ _).alloc _).drewN _⟩

theorem specSize_any (k s b : Int) (w : World) (_hk : -9223372036854775808 ≤ s ∧ s ≤ 9223372036854775807) :
    Calls Tryd.prog 20 #[.agg #[.int .i64 k, .int .i64 s, .int .i64 b]] w fun e w' => e = .returned (.int .i64 (hszOf k s b : Int)) ∧ Kept NoBlk w w' := by
  have HS : Hid (∀ w', _) := Lib.hid (fun w' => specSizes_any k s b w' _hk)
  have hb := Blk.new w 38 #[.int .i64 k, .int .i64 s, .int .i64 b]
  have c0 : (w.alloc (.cells #[.int .i64 k, .int .i64 s, .int .i64 b] 38)).cell? ⟨w.heap.size, 0, none⟩ = some (.int .i64 k) := hb.cellIs rfl
  have c1 : (w.alloc (.cells #[.int .i64 k, .int .i64 s, .int .i64 b] 38)).cell? ⟨w.heap.size, 1, none⟩ = some (.int .i64 s) := hb.cellIs rfl
  have c2 : (w.alloc (.cells #[.int .i64 k, .int .i64 s, .int .i64 b] 38)).cell? ⟨w.heap.size, 2, none⟩ = some (.int .i64 b) := hb.cellIs rfl
  clear hb
  go_enter Tryd.func20, Tryd.ntmps20
  go_wp2_with fail
  refine (HS.out _).mono ?_
  rintro e w1 ⟨y, rfl, k1⟩
  have K1 := Lib.hid (((Kept.refl NoBlk w).alloc (.cells #[.int .i64 k, .int .i64 s, .int .i64 b] 38)).none k1)
  clear k1
  go_wp2_with fail
  go_ret
  exact ⟨rfl, K1.out⟩

/-- A hash in memory: SHA-256, or the package's own of n bytes. -/
def HashAt (w : World) (n : Nat) (v : Value) : Prop :=
  (n = 32 ∧ ∃ g, v = .iface 97 (.pointer (some ⟨g, 0, none⟩)) ∧ g < w.heap.size ∧ ∃ cs, Blk w g 129 cs ∧ cs[74]? = some (.bool false)) ∨
  (∃ g, v = .iface 99 (.pointer (some ⟨g, 0, none⟩)) ∧ g < w.heap.size ∧ w.cell? ⟨g, 0, none⟩ = some (.int .i64 (n : Int)))

theorem ownReset_any (g r n : Nat) (x1 x2 : Value) (cs : List UInt8) (w : World) (hb : Blk w g 131 #[.int .i64 n, x1, x2, .slice (some ⟨r, 0, none⟩) n n]) (hr : Blk w r 5 (cs.map B).toArray) (hl : cs.length = n) (hn : n ≤ 16) :
    Calls Tryd.prog 79 #[.pointer (some ⟨g, 0, none⟩)] w fun e w' => e = .returned (.tuple #[]) ∧ Blk w' g 131 #[.int .i64 n, x1, .int .i64 0, .slice (some ⟨r, 0, none⟩) n n] ∧ Kept (Both g r) w w' := by
  have c2 : w.cell? ⟨g, 2, none⟩ = some x2 := hb.cellIs rfl
  have f2 := hb.frozen 2
  have hne : g ≠ r := hb.ne_ hr (by decide)
  have hb1 := hb.set_ 2 (.int .i64 0)
  have hr1 := hr.far (p := ⟨g, 2, none⟩) hne.symm (.int .i64 0)
  have c3 : (w.setCell ⟨g, 2, none⟩ (.int .i64 0)).cell? ⟨g, 3, none⟩ = some (.slice (some ⟨r, 0, none⟩) n n) := hb1.cellIs rfl
  obtain ⟨w1, hw1⟩ : ∃ w1, w.setCell ⟨g, 2, none⟩ (.int .i64 0) = w1 := ⟨_, rfl⟩
  have hk1 : Kept (Both g r) w w1 := by rw [← hw1]; exact (Kept.refl _ w).setCell _ _ (fun _ => .inl rfl)
  rw [hw1] at hb1 hr1 c3
  have HB1 : Hid (Blk w1 g 131 #[.int .i64 n, x1, .int .i64 0, .slice (some ⟨r, 0, none⟩) n n]) := Lib.hid hb1
  have HR1 := Lib.hid hr1
  have HK1 := Lib.hid hk1
  have HL := Lib.hid hl
  have HNE := Lib.hid hne
  clear hb hr hb1 hr1 hk1 hl
  go_enter Tryd.func79, Tryd.ntmps79
  go_wp2_with fail
  clear c2 f2 c3 hw1
  go_loopw [11] (fun iv wr => ∃ (i : Nat) (ds : List UInt8), i ≤ n ∧ iv = .int .i64 (i : Int) ∧ ds.length = n ∧ Blk wr r 5 (ds.map B).toArray ∧ Blk wr g 131 #[.int .i64 n, x1, .int .i64 0, .slice (some ⟨r, 0, none⟩) n n] ∧ Kept (Both g r) w wr) (fun iv _ => n - (intOf iv).toNat)
  case atStart => exact ⟨0, cs, Nat.zero_le _, rfl, HL.out, HR1.out, HB1.out, HK1.out⟩
  case round =>
    obtain ⟨i, ds, hi, rfl, hd, hr, hb, hk⟩ := hrel
    rcases Nat.lt_or_ge i n with hlt | hge
    · have d3 : wr.cell? ⟨g, 3, none⟩ = some (.slice (some ⟨r, 0, none⟩) n n) := hb.cellIs rfl
      obtain ⟨x, hx⟩ : ∃ x, ds[i]? = some x := ⟨_, List.getElem?_eq_getElem (by omega)⟩
      have ci : wr.cell? ⟨r, i, none⟩ = some (.int .u8 (x.toNat : Int)) := hr.cellIs (by rw [List.getElem?_toArray, List.getElem?_map, hx]; rfl)
      have fi := hr.frozen i
      have hii : (i : Int) < (n : Int) := by omega
      have hrel2 : ∀ w', w' = wr.setCell ⟨r, i, none⟩ (.int .u8 (i : Int)) → Blk w' r 5 ((ds.set i (UInt8.ofNat i)).map B).toArray ∧ Blk w' g 131 #[.int .i64 n, x1, .int .i64 0, .slice (some ⟨r, 0, none⟩) n n] ∧ Kept (Both g r) w w' := by
        rintro w' rfl
        refine ⟨?_, hb.far (p := ⟨r, i, none⟩) HNE.out _, hk.setCell _ _ (fun _ => .inr rfl)⟩
        have := hr.set_ i (.int .u8 (i : Int))
        rw [List.setIfInBounds_toArray] at this
        rw [List.map_set]
        have e : B (UInt8.ofNat i) = .int .u8 (i : Int) := by unfold B; rw [toNat_of, Nat.mod_eq_of_lt (by omega)]
        rw [e]; exact this
      have hi256 : (i : Int) % 256 = (i : Int) := by omega
      have R2 := Lib.hid hrel2
      have HD := Lib.hid hd
      clear hrel2 hd hr hb hk hx
      go_wp2_with fail
      go_roundw
      case rel => exact ⟨i + 1, ds.set i (UInt8.ofNat i), by omega, by go_num, by rw [List.length_set]; exact HD.out, R2.out _ (by first | rfl | rw [hi256])⟩
      case measure => first | (simp [intOf]; done) | (simp [intOf]; omega)
    · obtain rfl : i = n := by omega
      have FIN : Hid (Blk wr g 131 #[.int .i64 i, x1, .int .i64 0, .slice (some ⟨r, 0, none⟩) i i] ∧ Kept (Both g r) w wr) := Lib.hid ⟨hb, hk⟩
      clear hr hb hk
      go_wp2_with fail
      refine bodyPost_end (results_none rfl _ _ _) rfl ?_
      exact ⟨rfl, FIN.out⟩

theorem shaKept (g : Nat) (w : World) (u0 u1 u2 u3 u4 u5 u6 u7 u8 u9 : Value) : Kept (OneBlk g) w ((((((((((w.setCell ⟨g, 0, none⟩ u0).setCell ⟨g, 1, none⟩ u1).setCell ⟨g, 2, none⟩ u2).setCell ⟨g, 3, none⟩ u3).setCell ⟨g, 4, none⟩ u4).setCell ⟨g, 5, none⟩ u5).setCell ⟨g, 6, none⟩ u6).setCell ⟨g, 7, none⟩ u7).setCell ⟨g, 72, none⟩ u8).setCell ⟨g, 73, none⟩ u9) := (((((((((((Kept.refl (OneBlk g) w).setOne 0 u0).setOne 1 u1).setOne 2 u2).setOne 3 u3).setOne 4 u4).setOne 5 u5).setOne 6 u6).setOne 7 u7).setOne 72 u8).setOne 73 u9)

theorem shaCell (g : Nat) (w : World) (u0 u1 u2 u3 u4 u5 u6 u7 u8 u9 : Value) : ((((((((((w.setCell ⟨g, 0, none⟩ u0).setCell ⟨g, 1, none⟩ u1).setCell ⟨g, 2, none⟩ u2).setCell ⟨g, 3, none⟩ u3).setCell ⟨g, 4, none⟩ u4).setCell ⟨g, 5, none⟩ u5).setCell ⟨g, 6, none⟩ u6).setCell ⟨g, 7, none⟩ u7).setCell ⟨g, 72, none⟩ u8).setCell ⟨g, 73, none⟩ u9).cell? ⟨g, 74, none⟩ = w.cell? ⟨g, 74, none⟩ := by
  rw [World.cell?_setCell_other (h := show (⟨g, 73, none⟩ : Addr) ≠ ⟨g, 74, none⟩ by simp), World.cell?_setCell_other (h := show (⟨g, 72, none⟩ : Addr) ≠ ⟨g, 74, none⟩ by simp), World.cell?_setCell_other (h := show (⟨g, 7, none⟩ : Addr) ≠ ⟨g, 74, none⟩ by simp), World.cell?_setCell_other (h := show (⟨g, 6, none⟩ : Addr) ≠ ⟨g, 74, none⟩ by simp), World.cell?_setCell_other (h := show (⟨g, 5, none⟩ : Addr) ≠ ⟨g, 74, none⟩ by simp), World.cell?_setCell_other (h := show (⟨g, 4, none⟩ : Addr) ≠ ⟨g, 74, none⟩ by simp), World.cell?_setCell_other (h := show (⟨g, 3, none⟩ : Addr) ≠ ⟨g, 74, none⟩ by simp), World.cell?_setCell_other (h := show (⟨g, 2, none⟩ : Addr) ≠ ⟨g, 74, none⟩ by simp), World.cell?_setCell_other (h := show (⟨g, 1, none⟩ : Addr) ≠ ⟨g, 74, none⟩ by simp), World.cell?_setCell_other (h := show (⟨g, 0, none⟩ : Addr) ≠ ⟨g, 74, none⟩ by simp)]

theorem shaReset_any (g : Nat) (w : World) (hg : g < w.heap.size) (c0 : w.cell? ⟨g, 0, none⟩ = some (.int .u32 0)) (c1 : w.cell? ⟨g, 1, none⟩ = some (.int .u32 0)) (c2 : w.cell? ⟨g, 2, none⟩ = some (.int .u32 0)) (c3 : w.cell? ⟨g, 3, none⟩ = some (.int .u32 0)) (c4 : w.cell? ⟨g, 4, none⟩ = some (.int .u32 0)) (c5 : w.cell? ⟨g, 5, none⟩ = some (.int .u32 0)) (c6 : w.cell? ⟨g, 6, none⟩ = some (.int .u32 0)) (c7 : w.cell? ⟨g, 7, none⟩ = some (.int .u32 0)) (c72 : w.cell? ⟨g, 72, none⟩ = some (.int .i64 0)) (c73 : w.cell? ⟨g, 73, none⟩ = some (.int .u64 0)) (c74 : w.cell? ⟨g, 74, none⟩ = some (.bool false)) (hf : ∀ i, w.frozen? ⟨g, i, none⟩ = false) :
    Calls Tryd.prog 78 #[.pointer (some ⟨g, 0, none⟩)] w fun e w' => e = .returned (.tuple #[]) ∧ w'.cell? ⟨g, 74, none⟩ = some (.bool false) ∧ Kept (OneBlk g) w w' := by
  have f0 := hf 0
  have f1 := hf 1
  have f2 := hf 2
  have f3 := hf 3
  have f4 := hf 4
  have f5 := hf 5
  have f6 := hf 6
  have f7 := hf 7
  have f72 := hf 72
  have f73 := hf 73
  have f74 := hf 74
  have HG := Lib.hid hg
  clear hf hg
  go_enter Tryd.func78, Tryd.ntmps78
  go_wp2_with fail
  refine bodyPost_end (results_none rfl _ _ _) rfl ?_
  refine ⟨rfl, ?_, ?_⟩
  · exact (shaCell g w _ _ _ _ _ _ _ _ _ _).trans c74
  · exact shaKept g w _ _ _ _ _ _ _ _ _ _

theorem sha256New_any (w : World) : Calls Tryd.prog 54 #[] w fun e w' => e = .returned (.pointer (some ⟨w.heap.size, 0, none⟩)) ∧ w.heap.size < w'.heap.size ∧ w'.cell? ⟨w.heap.size, 74, none⟩ = some (.bool false) ∧ Kept NoBlk w w' := by
  have hb := Blk.new w 129 Tryd.zeroCells129
  have hk : Kept NoBlk w (w.alloc (.cells Tryd.zeroCells129 129)) := (Kept.refl _ w).alloc _
  have hs := hb.lt
  have hr := shaReset_any w.heap.size (w.alloc (.cells Tryd.zeroCells129 129)) hs
    (hb.cellIs (by kernel_rfl)) (hb.cellIs (by kernel_rfl)) (hb.cellIs (by kernel_rfl)) (hb.cellIs (by kernel_rfl)) (hb.cellIs (by kernel_rfl)) (hb.cellIs (by kernel_rfl)) (hb.cellIs (by kernel_rfl)) (hb.cellIs (by kernel_rfl)) (hb.cellIs (by kernel_rfl)) (hb.cellIs (by kernel_rfl)) (hb.cellIs (by kernel_rfl)) (fun i => hb.frozen i)
  have HR := Lib.hid hr
  have HK := Lib.hid hk
  have HS := Lib.hid hs
  clear hb hk hr hs
  go_enter Tryd.func54, Tryd.ntmps54
  go_wp2_with fail
  refine HR.out.mono ?_
  rintro e w1 ⟨rfl, hc, k1⟩
  have FIN : Hid (w.heap.size < w1.heap.size ∧ w1.cell? ⟨w.heap.size, 74, none⟩ = some (.bool false) ∧ Kept NoBlk w w1) := Lib.hid ⟨Nat.lt_of_lt_of_le HS.out k1.size, hc, HK.out.fresh k1 (Nat.le_refl _)⟩
  clear hc k1 HR
  go_wp2_with fail
  go_ret
  exact ⟨rfl, FIN.out⟩

/-- The own hash, just made. -/
theorem freshTail (k s b : Int) (n : Nat) (nv : Int) (hnv : nv = (n : Int)) (bv : Value) (hn : n ≤ 16) (w : World) :
    Calls Tryd.prog 79 #[.pointer (some ⟨w.heap.size + 1, 0, none⟩)]
      (((w.alloc (.cells #[.int .i64 k, .int .i64 s, .int .i64 b] 38)).alloc (.cells #[.int .i64 nv, bv, .int .i64 0, .slice (some ⟨w.heap.size + 1 + 1, 0, none⟩) n n] 131)).alloc (.cells (zeroRow n) 5))
      fun e w' => e = .returned (.tuple #[]) ∧ w.heap.size + 1 < w'.heap.size ∧ w'.cell? ⟨w.heap.size + 1, 0, none⟩ = some (.int .i64 (n : Int)) ∧ Kept NoBlk w w' := by
  subst hnv
  have s1 : (w.alloc (.cells #[.int .i64 k, .int .i64 s, .int .i64 b] 38)).heap.size = w.heap.size + 1 := by simp
  have b1 := Blk.new (w.alloc (.cells #[.int .i64 k, .int .i64 s, .int .i64 b] 38)) 131 #[.int .i64 (n : Int), bv, .int .i64 0, .slice (some ⟨w.heap.size + 1 + 1, 0, none⟩) n n]
  rw [s1] at b1
  obtain ⟨w1, hw1⟩ : ∃ w1, (w.alloc (.cells #[.int .i64 k, .int .i64 s, .int .i64 b] 38)).alloc (.cells #[.int .i64 (n : Int), bv, .int .i64 0, .slice (some ⟨w.heap.size + 1 + 1, 0, none⟩) n n] 131) = w1 := ⟨_, rfl⟩
  have s2 : w1.heap.size = w.heap.size + 1 + 1 := by rw [← hw1]; simp
  have k1 : Kept NoBlk w w1 := by rw [← hw1]; exact ((Kept.refl _ w).alloc _).alloc _
  rw [hw1] at b1 ⊢
  have b2 := b1.alloc (.cells (zeroRow n) 5)
  have r2 := Blk.new w1 5 (zeroRow n)
  rw [s2] at r2
  refine (ownReset_any (w.heap.size + 1) (w.heap.size + 1 + 1) n bv (.int .i64 0) (List.replicate n 0) _ b2 r2 List.length_replicate hn).mono ?_
  rintro e w' ⟨rfl, hb, hk⟩
  exact ⟨rfl, hb.lt, hb.cellIs rfl, (k1.alloc _).step hk (fun i hi e => by unfold Both at e; omega)⟩

set_option maxRecDepth 20000 in
theorem fresh_any (k s b : Int) (w : World) (_hk : -9223372036854775808 ≤ s ∧ s ≤ 9223372036854775807) (hk1 : k ≠ 1) :
    Calls Tryd.prog 55 #[.agg #[.int .i64 k, .int .i64 s, .int .i64 b]] w fun e w' => e = .returned (.pointer (some ⟨w.heap.size + 1, 0, none⟩)) ∧ w.heap.size + 1 < w'.heap.size ∧ w'.cell? ⟨w.heap.size + 1, 0, none⟩ = some (.int .i64 (hszOf k s b : Int)) ∧ Kept NoBlk w w' := by
  unfold hszOf
  rw [if_neg hk1]
  by_cases h2 : s < 1 ∨ 16 < s ∨ b < s ∨ 32 < b
  · rw [if_pos h2]
    have hmk1 : ∀ w' : World, (Instr.makeSlice 23 (.int .i64 1) (.int .i64 1)).run Tryd.prog w' = .ok (.slice (some ⟨w'.heap.size, 0, none⟩) 1 1) (w'.alloc (.cells (zeroRow 1) 5)) := fun w' => make_bytes w' 1 (by omega)
    have HT := Lib.hid (freshTail k s b 1 1 rfl (.int .i64 16) (by decide) w)
    have hcase : s < 1 ∨ (¬ s < 1 ∧ 16 < s) ∨ (¬ s < 1 ∧ ¬ 16 < s ∧ b < s) ∨ (¬ s < 1 ∧ ¬ 16 < s ∧ ¬ b < s ∧ 32 < b) := by omega
    clear h2 hk1
    rcases hcase with a1 | ⟨a1, a2⟩ | ⟨a1, a2, a3⟩ | ⟨a1, a2, a3, a4⟩
    all_goals
      go_enter Tryd.func55, Tryd.ntmps55
      go_wp2_with fail
      refine HT.out.mono ?_
      rintro e w1 ⟨rfl, h1, h3, k1⟩
      have FIN : Hid (w.heap.size + 1 < w1.heap.size ∧ w1.cell? ⟨w.heap.size + 1, 0, none⟩ = some (.int .i64 ((1 : Nat) : Int)) ∧ Kept NoBlk w w1) := Lib.hid ⟨h1, h3, k1⟩
      clear h1 h3 k1 HT
      go_wp2_with fail
      go_ret
      exact ⟨rfl, FIN.out⟩
  · rw [if_neg h2]
    have a1 : ¬ s < 1 := by omega
    have a2 : ¬ 16 < s := by omega
    have a3 : ¬ b < s := by omega
    have a4 : ¬ 32 < b := by omega
    have a5 : s = (s.toNat : Int) := by omega
    obtain ⟨n, hn⟩ : ∃ n, s.toNat = n := ⟨_, rfl⟩
    rw [hn] at a5 ⊢
    have hmk1 : ∀ w' : World, (Instr.makeSlice 23 (.int .i64 s) (.int .i64 s)).run Tryd.prog w' = .ok (.slice (some ⟨w'.heap.size, 0, none⟩) n n) (w'.alloc (.cells (zeroRow n) 5)) := by
      rw [a5]; exact fun w' => make_bytes w' n (by omega)
    have HT := Lib.hid (freshTail k s b n s a5 (.int .i64 b) (by omega) w)
    clear hk1 h2 a5 hn
    go_enter Tryd.func55, Tryd.ntmps55
    go_wp2_with fail
    refine HT.out.mono ?_
    rintro e w1 ⟨rfl, h1, h3, k1⟩
    have FIN : Hid (w.heap.size + 1 < w1.heap.size ∧ w1.cell? ⟨w.heap.size + 1, 0, none⟩ = some (.int .i64 (n : Int)) ∧ Kept NoBlk w w1) := Lib.hid ⟨h1, h3, k1⟩
    clear h1 h3 k1 HT
    go_wp2_with fail
    go_ret
    exact ⟨rfl, FIN.out⟩

/-- A new hash. -/
def MadeH (n : Nat) (w : World) (e : Ending) (w' : World) : Prop := Kept NoBlk w w' ∧ ((n = 32 ∧ ∃ g, e = .returned (.iface 97 (.pointer (some ⟨g, 0, none⟩))) ∧ g < w'.heap.size ∧ w'.cell? ⟨g, 74, none⟩ = some (.bool false)) ∨
  (n ≤ 16 ∧ ∃ g, e = .returned (.iface 99 (.pointer (some ⟨g, 0, none⟩))) ∧ g < w'.heap.size ∧ w'.cell? ⟨g, 0, none⟩ = some (.int .i64 (n : Int))))

theorem made_any (k s b : Int) (w : World) (_hk : -9223372036854775808 ≤ s ∧ s ≤ 9223372036854775807) :
    Calls Tryd.prog 38 #[.agg #[.int .i64 k, .int .i64 s, .int .i64 b]] w (MadeH (hszOf k s b) w) := by
  obtain ⟨w0, hw0⟩ : ∃ w0, w.alloc (.cells #[.int .i64 k, .int .i64 s, .int .i64 b] 38) = w0 := ⟨_, rfl⟩
  have hb := Blk.new w 38 #[.int .i64 k, .int .i64 s, .int .i64 b]
  rw [hw0] at hb
  have c0 : w0.cell? ⟨w.heap.size, 0, none⟩ = some (.int .i64 k) := hb.cellIs rfl
  have c1 : w0.cell? ⟨w.heap.size, 1, none⟩ = some (.int .i64 s) := hb.cellIs rfl
  have c2 : w0.cell? ⟨w.heap.size, 2, none⟩ = some (.int .i64 b) := hb.cellIs rfl
  have K0 : Hid (Kept NoBlk w w0) := Lib.hid (by rw [← hw0]; exact (Kept.refl _ w).alloc _)
  clear hb
  by_cases h1 : k = 1
  · have hz : hszOf k s b = 32 := by unfold hszOf; rw [if_pos h1]
    rw [hz]
    subst h1
    have HN := Lib.hid (sha256New_any w0)
    go_enter Tryd.func38, Tryd.ntmps38
    go_wp2_with fail
    refine HN.out.mono ?_
    rintro e w1 ⟨rfl, h1, h2, k1⟩
    have FIN : Hid (MadeH 32 w (.returned (.iface 97 (.pointer (some ⟨w0.heap.size, 0, none⟩)))) w1) := Lib.hid ⟨K0.out.none k1, .inl ⟨rfl, _, rfl, h1, h2⟩⟩
    clear h1 h2 k1 HN
    go_wp2_with fail
    go_ret
    exact FIN.out
  · have hz : hszOf k s b ≤ 16 := by unfold hszOf; rw [if_neg h1]; split <;> omega
    have HF := Lib.hid (fresh_any k s b w0 _hk h1)
    obtain ⟨n, hn⟩ : ∃ n, hszOf k s b = n := ⟨_, rfl⟩
    rw [hn] at hz HF ⊢
    have e1 : (k == 1) = false := by rw [beq_eq_false_iff_ne]; exact h1
    have HZ := Lib.hid hz
    clear h1 hn hz
    go_enter Tryd.func38, Tryd.ntmps38
    go_wp2_with fail
    refine HF.out.mono ?_
    rintro e w1 ⟨rfl, h1, h2, k1⟩
    have FIN : Hid (MadeH n w (.returned (.iface 99 (.pointer (some ⟨w0.heap.size + 1, 0, none⟩)))) w1) := Lib.hid ⟨K0.out.none k1, .inr ⟨HZ.out, _, rfl, h1, h2⟩⟩
    clear h1 h2 k1 HF
    go_wp2_with fail
    go_ret
    exact FIN.out

end Go.Proofs.YtmheoenieaemmaaDoor
