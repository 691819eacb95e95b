/-
  sha256.bePutUint32, bePutUint64.
-/
import Derived.Test.YtgkfnmmajehobaaShaD
import Derived.BigRegion
namespace Go.Proofs.Ytgkfnmmajehobaa
open Go.RowKit

theorem splice_cons {α : Type} (L vs : List α) (off : Nat) (v : α) (h : off < L.length) : splice (L.set off v) (off + 1) vs = splice L off (v :: vs) := by
  unfold splice
  have h1 : (L.set off v).take (off + 1) = L.take off ++ [v] := by
    rw [List.take_add_one, List.getElem?_set_self h, List.take_set_of_le (Nat.le_refl off)]
    rfl
  rw [h1, List.drop_set_of_lt (by omega), List.append_assoc, List.length_cons, show off + 1 + vs.length = off + (vs.length + 1) from by omega]
  rfl
theorem splice_none {α : Type} (L : List α) (off : Nat) : splice L off [] = L := by
  unfold splice
  simp

def u8I (z : Int) : UInt8 := UInt8.ofNat (z % 256).toNat
theorem B_u8I (z : Int) : B (u8I z) = .int .u8 (z % 256) := by
  unfold B u8I
  rw [UInt8.toNat_ofNat']
  congr 1
  omega
def be4U (v : Int) : List UInt8 := [u8I (v / 16777216), u8I (v / 65536), u8I (v / 256), u8I v]
def be8U (v : Int) : List UInt8 := [u8I (v / 72057594037927936), u8I (v / 281474976710656), u8I (v / 1099511627776), u8I (v / 4294967296), u8I (v / 16777216), u8I (v / 65536), u8I (v / 256), u8I v]

theorem bePut32_any (g off n c : Nat) (t : TypeId) (L : List Value) (v : Int) (w : World) (hb : Blk w g t L.toArray) (hn : 4 ≤ n) (hL : off + 4 ≤ L.length) :
    Calls Try.prog 38 #[.slice (some ⟨g, off, none⟩) n c, .int .u32 v] w fun e w' => e = .returned (.tuple #[]) ∧ Blk w' g t (splice L off ((be4U v).map B)).toArray ∧ Kept (OneBlk g) w w' := by
  obtain ⟨y0, hy0⟩ : ∃ y, L[off]? = some y := ⟨_, List.getElem?_eq_getElem (by omega)⟩
  obtain ⟨y1, hy1⟩ : ∃ y, L[off + 1]? = some y := ⟨_, List.getElem?_eq_getElem (by omega)⟩
  obtain ⟨y2, hy2⟩ : ∃ y, L[off + 2]? = some y := ⟨_, List.getElem?_eq_getElem (by omega)⟩
  obtain ⟨y3, hy3⟩ : ∃ y, L[off + 3]? = some y := ⟨_, List.getElem?_eq_getElem (by omega)⟩
  have c0 : w.cell? ⟨g, off, none⟩ = some y0 := hb.cellIs (by rw [List.getElem?_toArray]; exact hy0)
  have c1 : w.cell? ⟨g, off + 1, none⟩ = some y1 := hb.cellIs (by rw [List.getElem?_toArray]; exact hy1)
  have c2 : w.cell? ⟨g, off + 2, none⟩ = some y2 := hb.cellIs (by rw [List.getElem?_toArray]; exact hy2)
  have c3 : w.cell? ⟨g, off + 3, none⟩ = some y3 := hb.cellIs (by rw [List.getElem?_toArray]; exact hy3)
  have f0 := Blk.frozen hb off
  have f1 := Blk.frozen hb (off + 1)
  have f2 := Blk.frozen hb (off + 2)
  have f3 := Blk.frozen hb (off + 3)
  have hn3 : (3 : Int) < (n : Int) := by omega
  have hn0 : (0 : Int) < (n : Int) := by omega
  have hn1 : (1 : Int) < (n : Int) := by omega
  have hn2 : (2 : Int) < (n : Int) := by omega
  have FIN : Hid (∀ W, W = (((w.setCell ⟨g, off, none⟩ (.int .u8 (v / 16777216 % 256))).setCell ⟨g, off + 1, none⟩ (.int .u8 (v / 65536 % 256))).setCell ⟨g, off + 2, none⟩ (.int .u8 (v / 256 % 256))).setCell ⟨g, off + 3, none⟩ (.int .u8 (v % 256)) →
      Blk W g t (splice L off ((be4U v).map B)).toArray ∧ Kept (OneBlk g) w W) := Lib.hid (by
    rintro W rfl
    refine ⟨?_, ((((Kept.refl _ w).setOne _ _).setOne _ _).setOne _ _).setOne _ _⟩
    have h := (((hb.set_ off (.int .u8 (v / 16777216 % 256))).set_ (off + 1) (.int .u8 (v / 65536 % 256))).set_ (off + 2) (.int .u8 (v / 256 % 256))).set_ (off + 3) (.int .u8 (v % 256))
    simp only [List.setIfInBounds_toArray] at h
    unfold be4U
    simp only [List.map_cons, List.map_nil, B_u8I]
    rw [← splice_cons _ _ _ _ (by omega), ← splice_cons _ _ _ _ (by simp only [List.length_set]; omega), ← splice_cons _ _ _ _ (by simp only [List.length_set]; omega), ← splice_cons _ _ _ _ (by simp only [List.length_set]; omega), splice_none]
    exact h)
  clear hb hy0 hy1 hy2 hy3 hL
  go_enter Try.func38, Try.ntmps38
  go_wp2_with fail
  refine bodyPost_end (results_none rfl _ _ _) rfl ?_
  exact ⟨rfl, FIN.out _ rfl⟩

def pw8 (i : Nat) : Int := (2 : Int) ^ (56 - 8 * i)
theorem be8U_length (v : Int) : (be8U v).length = 8 := rfl
theorem bePut64_any (g off n c : Nat) (t : TypeId) (L : List Value) (v : Int) (w : World) (hb : Blk w g t L.toArray) (hn : 8 ≤ n) (hL : off + 8 ≤ L.length) :
    Calls Try.prog 37 #[.slice (some ⟨g, off, none⟩) n c, .int .u64 v] w fun e w' => e = .returned (.tuple #[]) ∧ Blk w' g t (splice L off ((be8U v).map B)).toArray ∧ Kept (OneBlk g) w w' := by
  obtain ⟨y7, hy7⟩ : ∃ y, L[off + 7]? = some y := ⟨_, List.getElem?_eq_getElem (by omega)⟩
  have c7 : w.cell? ⟨g, off + 7, none⟩ = some y7 := hb.cellIs (by rw [List.getElem?_toArray]; exact hy7)
  have hn7 : (7 : Int) < (n : Int) := by omega
  have HB := Lib.hid hb
  clear hb hy7
  go_enter Try.func37, Try.ntmps37
  go_wp2_with fail
  go_loopw [4] (fun iv wr => ∃ i : Nat, i ≤ 8 ∧ iv = .int .i64 (i : Int) ∧ Blk wr g t (splice L off (((be8U v).take i).map B)).toArray ∧ Kept (OneBlk g) w wr) (fun iv _ => 8 - (intOf iv).toNat)
  case atStart => exact ⟨0, by omega, rfl, by rw [List.take_zero, List.map_nil, splice_none]; exact HB.out, Kept.refl _ _⟩
  case round =>
    obtain ⟨i, hi, rfl, hb, hk⟩ := hrel
    have hlt : (((be8U v).take i).map B).length = i := by rw [List.length_map, List.length_take, be8U_length]; omega
    have hL2 : (splice L off (((be8U v).take i).map B)).length = L.length := splice_len _ _ _ (by rw [hlt]; omega)
    have hR : ∀ z : Int, i < 8 → (be8U v)[i]? = some (u8I z) → ∀ W, W = wr.setCell ⟨g, off + i, none⟩ (.int .u8 (z % 256)) → Blk W g t (splice L off (((be8U v).take (i + 1)).map B)).toArray ∧ Kept (OneBlk g) w W := by
      rintro z h8 hz W rfl
      refine ⟨?_, hk.setOne _ _⟩
      have h := hb.set_ (off + i) (.int .u8 (z % 256))
      rw [List.setIfInBounds_toArray] at h
      have e : splice L off (((be8U v).take (i + 1)).map B) = (splice L off (((be8U v).take i).map B)).set (off + i) (.int .u8 (z % 256)) := by
        rw [List.take_add_one, hz, List.map_append, ← B_u8I]
        have h5 := splice_app L (((be8U v).take i).map B) off [B (u8I z)] (by rw [hlt]; simp; omega)
        rw [hlt] at h5
        show splice L off (List.map B (List.take i (be8U v)) ++ [B (u8I z)]) = _
        rw [← h5, ← splice_none ((splice L off (((be8U v).take i).map B)).set (off + i) _) (off + i + 1), splice_cons _ _ _ _ (by rw [hL2]; omega)]
      rw [e]
      exact h
    have hR2 := Lib.hid hR
    have HK := Lib.hid (And.intro hb hk)
    have hcl : i < 8 → ∃ y, wr.cell? ⟨g, off + i, none⟩ = some y := fun h => ⟨_, hb.cellIs (by rw [List.getElem?_toArray]; exact List.getElem?_eq_getElem (by rw [hL2]; omega))⟩
    have fr := Blk.frozen hb (off + i)
    clear hR hb hk hlt hL2 c7
    rcases Nat.lt_or_ge i 8 with hlt8 | hge8
    · obtain ⟨y, cy⟩ := hcl hlt8
      clear hcl
      obtain rfl | rfl | rfl | rfl | rfl | rfl | rfl | rfl : i = 0 ∨ i = 1 ∨ i = 2 ∨ i = 3 ∨ i = 4 ∨ i = 5 ∨ i = 6 ∨ i = 7 := by omega
      · have hn0 : (0 : Int) < (n : Int) := by omega
        have HF := Lib.hid (hR2.out (v / 72057594037927936) (by omega) rfl)
        clear hR2
        simp only [Nat.add_zero] at *
        go_wp2_with fail
        go_roundw
        case rel => exact ⟨1, by omega, rfl, HF.out _ rfl⟩
        case measure => simp [intOf]
      · have hn1 : (1 : Int) < (n : Int) := by omega
        have HF := Lib.hid (hR2.out (v / 281474976710656) (by omega) rfl)
        clear hR2
        go_wp2_with fail
        go_roundw
        case rel => exact ⟨2, by omega, rfl, HF.out _ rfl⟩
        case measure => simp [intOf]
      · have hn2 : (2 : Int) < (n : Int) := by omega
        have HF := Lib.hid (hR2.out (v / 1099511627776) (by omega) rfl)
        clear hR2
        go_wp2_with fail
        go_roundw
        case rel => exact ⟨3, by omega, rfl, HF.out _ rfl⟩
        case measure => simp [intOf]
      · have hn3 : (3 : Int) < (n : Int) := by omega
        have HF := Lib.hid (hR2.out (v / 4294967296) (by omega) rfl)
        clear hR2
        go_wp2_with fail
        go_roundw
        case rel => exact ⟨4, by omega, rfl, HF.out _ rfl⟩
        case measure => simp [intOf]
      · have hn4 : (4 : Int) < (n : Int) := by omega
        have HF := Lib.hid (hR2.out (v / 16777216) (by omega) rfl)
        clear hR2
        go_wp2_with fail
        go_roundw
        case rel => exact ⟨5, by omega, rfl, HF.out _ rfl⟩
        case measure => simp [intOf]
      · have hn5 : (5 : Int) < (n : Int) := by omega
        have HF := Lib.hid (hR2.out (v / 65536) (by omega) rfl)
        clear hR2
        go_wp2_with fail
        go_roundw
        case rel => exact ⟨6, by omega, rfl, HF.out _ rfl⟩
        case measure => simp [intOf]
      · have hn6 : (6 : Int) < (n : Int) := by omega
        have HF := Lib.hid (hR2.out (v / 256) (by omega) rfl)
        clear hR2
        go_wp2_with fail
        go_roundw
        case rel => exact ⟨7, by omega, rfl, HF.out _ rfl⟩
        case measure => simp [intOf]
      · have hn7 : (7 : Int) < (n : Int) := by omega
        have HF := Lib.hid (hR2.out v (by omega) rfl)
        clear hR2
        go_wp2_with fail
        go_roundw
        case rel => exact ⟨8, by omega, rfl, HF.out _ rfl⟩
        case measure => simp [intOf]
    · obtain rfl : i = 8 := by omega
      clear hcl fr hR2
      go_wp2_with fail
      refine bodyPost_end (results_none rfl _ _ _) rfl ?_
      exact ⟨rfl, HK.out⟩

end Go.Proofs.Ytgkfnmmajehobaa
