/-
  rsa15.Pad and impl.Pad.
-/
import Derived.Test.YtcjjcghkokgjfaaDoorNonZeroLaw
import Derived.BigQuiet
import Derived.Deep.QuietTactic
namespace Go.Proofs.YtcjjcghkokgjfaaDoor
open Go.RowKit

/-- 0, 2, the padding, 0, the message. -/
def encOf (ys ms : List UInt8) : List UInt8 := 0 :: 2 :: (ys ++ 0 :: ms)
theorem encOf_length (ys ms : List UInt8) : (encOf ys ms).length = ms.length + ys.length + 3 := by simp [encOf]; omega

def padRow (n m : Nat) : List Value := B 0 :: B 2 :: (List.replicate n (B 0) ++ B 0 :: List.replicate m (B 0))
theorem padRow_length (n m : Nat) : (padRow n m).length = m + n + 3 := by simp [padRow]; omega
theorem padRow_start (n m : Nat) : (zeroRow (m + n + 3)).setIfInBounds 1 (.int .u8 2) = (padRow n m).toArray := by
  rw [show m + n + 3 = n + (m + 1) + 1 + 1 by omega]
  simp [zeroRow, padRow, List.replicate_succ, ← List.replicate_append_replicate, B]
theorem padRow_ys (n m : Nat) (ys : List UInt8) (h : ys.length = n) : splice (padRow n m) 2 (ys.map B) = B 0 :: B 2 :: (ys.map B ++ B 0 :: List.replicate m (B 0)) := by
  subst h
  simp only [splice, padRow, List.take_succ_cons, List.take_zero, List.length_map, List.cons_append, List.nil_append]
  rw [show 2 + ys.length = ys.length + 1 + 1 by omega, List.drop_succ_cons, List.drop_succ_cons, List.drop_append_of_le_length (by simp)]
  simp
theorem padRow_nought (n m : Nat) (ys : List UInt8) (h : ys.length = n) : (splice (padRow n m) 2 (ys.map B)).toArray.setIfInBounds (n + 2) (.int .u8 0) = (B 0 :: B 2 :: (ys.map B ++ B 0 :: List.replicate m (B 0))).toArray := by
  rw [padRow_ys n m ys h]
  subst h
  simp [B]
theorem padRow_msg (ys ms : List UInt8) : splice (B 0 :: B 2 :: (ys.map B ++ B 0 :: List.replicate ms.length (B 0))) (ys.length + 3) (ms.map B) = (encOf ys ms).map B := by
  simp only [splice, encOf, List.map_cons, List.map_append]
  rw [show ys.length + 3 = ys.length + 1 + 1 + 1 by omega, List.take_succ_cons, List.take_succ_cons, List.take_append, List.drop_eq_nil_of_le (by simp; omega), List.take_of_length_le (by simp)]
  simp

/-- What Pad leaves. -/
def PadRes (n : Nat) (xs ms : List UInt8) (w : World) (v er : Value) (w' : World) : Prop :=
  (n ≤ xs.length ∧ er = .nilIface ∧ ∃ (g : Nat) (ys : List UInt8), v = .slice (some ⟨g, 0, none⟩) (ms.length + n + 3) (ms.length + n + 3) ∧ ys.length = n ∧ (∀ x ∈ ys, x ≠ 0) ∧ ((∀ x ∈ xs.take n, x ≠ 0) → ys = xs.take n) ∧ BytesAt w' (some ⟨g, 0, none⟩) (encOf ys ms) ∧ Kept NoBlk w w') ∨
  ((xs.length < n ∨ ∃ x ∈ xs.take n, x = 0) ∧ (∃ ve : Addr, er = .iface 63 (.pointer (some ve))) ∧ v = .slice none 0 0 ∧ Kept NoBlk w w')

set_option maxHeartbeats 400000 in
theorem pad_any (r n kk : Nat) (A : Option Addr) (c : Nat) (xs : List UInt8) (D : Option Addr) (cm : Nat) (ms : List UInt8) (ea ua : Addr) (w0 w : World) (hn : n ≤ 1000000) (hms : ms.length ≤ 1000000) (hkk : kk = ms.length + n + 3) (hr : Rdr w r A c xs 0) (hG : Globs w ea ua) (hk0 : Kept NoBlk w0 w) (hr0 : w0.heap.size ≤ r) (hAl : ∀ a, A = some a → a.block < w.heap.size)
    (hD : BytesAt w D ms) (hDl : ∀ a, D = some a → a.block < w.heap.size ∧ a.block ≠ r) (_hcm : ms.length ≤ cm)
    (hrb : 1 < r ∧ 2 < r) :
    Calls Tryd.prog 19 #[.int .i64 kk, .iface 44 (.pointer (some ⟨r, 0, none⟩)), .slice D ms.length cm] w fun e w' => ∃ v er, e = .returned (.tuple #[v, er]) ∧ PadRes n xs ms w0 v er w' := by
  have hmk := fun w' => make_bytes w' kk (by omega)
  obtain ⟨⟨p, hb⟩, hat, hc, hl⟩ := hr
  have hrl := hb.lt
  have hz : Blk (w.alloc (.cells (zeroRow kk) 5)) w.heap.size 5 (zeroRow kk) := Blk.new _ _ _
  have hz1 := hz.set_ 1 (.int .u8 2)
  have hr1 : Rdr ((w.alloc (.cells (zeroRow kk) 5)).setCell ⟨w.heap.size, 1, none⟩ (.int .u8 2)) r A c xs 0 := ⟨⟨p, (hb.alloc _).far (Nat.ne_of_lt hrl) _⟩, (hat.alloc _).kept ((Kept.refl (OneBlk w.heap.size) _).setOne 1 _) (fun a ha => Nat.ne_of_lt (hAl a ha)), hc, hl⟩
  have hA : ∀ a, A = some a → a.block ≠ w.heap.size := fun a ha => Nat.ne_of_lt (hAl a ha)
  have hkw : Kept NoBlk w ((w.alloc (.cells (zeroRow kk) 5)).setCell ⟨w.heap.size, 1, none⟩ (.int .u8 2)) := ((Kept.refl NoBlk w).alloc _).setNew (Nat.le_refl _) _ _
  have hG1 : Globs ((w.alloc (.cells (zeroRow kk) 5)).setCell ⟨w.heap.size, 1, none⟩ (.int .u8 2)) ea ua := hG.kept hkw (fun e => e) (fun e => e)
  have hf := hz.frozen 1
  have hce : (w.alloc (.cells (zeroRow kk) 5)).cell? ⟨w.heap.size, 1, none⟩ = some (.int .u8 0) := hz.cellIs (by
    unfold zeroRow
    rw [List.getElem?_toArray, List.getElem?_map, List.getElem?_replicate, if_pos (by omega)]; rfl)
  obtain ⟨w2, hw2⟩ : ∃ w2, (w.alloc (.cells (zeroRow kk) 5)).setCell ⟨w.heap.size, 1, none⟩ (.int .u8 2) = w2 := ⟨_, rfl⟩
  obtain ⟨g, hg⟩ : ∃ g, w.heap.size = g := ⟨_, rfl⟩
  rw [hw2] at hz1 hr1 hkw hG1
  rw [hg] at hw2 hz1 hf hA hce
  rw [hkk, padRow_start n ms.length] at hz1
  have hD2 := hD.still hkw
  have HR1 := Lib.hid hr1
  have HG1 := Lib.hid hG1
  have HA := Lib.hid hA
  have HRB := Lib.hid hrb
  have HK0 := Lib.hid (hk0.none hkw)
  have HD := Lib.hid hD2
  have HDL := Lib.hid hDl
  have HZ1 := Lib.hid hz1
  have HKK := Lib.hid hkk
  have hb1 : (1 : Int) < (kk : Int) := by omega
  have hrg : r < g := by omega
  have hkk1 : kk ≤ ms.length + n + 3 := by omega
  have hkk2 : ms.length + n + 3 ≤ kk := by omega
  clear hb hat hr1 hG hG1 hA hrb hk0 hz hz1 hD hD2 hDl hkw hkk
  go_enter Tryd.func19, Tryd.ntmps19
  go_wp2_with fail
  have e1 : (kk : Int) - (ms.length : Int) = ((n + 3 : Nat) : Int) := by omega
  have e2 : ((n + 3 : Nat) : Int) - 1 = ((n + 2 : Nat) : Int) := by omega
  have hg0 : w0.heap.size ≤ g := by omega
  have HDG := Lib.hid hg
  clear hw2 hf hce hmk hg hrl hAl
  have hnz : ∀ cp nq, n ≤ cp → Calls Tryd.prog 21 #[.slice (some ⟨g, 2, none⟩) n cp, .iface 44 (.pointer (some ⟨r, 0, none⟩))] (w2.drewN nq) (NZPost g 2 n (padRow n ms.length) r xs 0 (w2.drewN nq)) :=
    fun cp nq hcp => nonZero_any r g 2 n cp (padRow n ms.length) A c xs 0 ea ua (w2.drewN nq) hcp (by omega) HR1.out (Nat.zero_le _) HZ1.out (by rw [padRow_length]; omega) HA.out HG1.out HRB.out (by have := HRB.out; omega)
  have HNZ := Lib.hid hnz
  clear hnz
  go_quiet (fail)
  go_wp2_with fail
  · refine (HNZ.out _ nq (by omega)).mono ?_
    have hlow : ∀ w' : World, Kept (rg r g) (w2.drewN nq) w' → Kept NoBlk w0 w' := fun w' hk =>
      (HK0.out.drewN _).step hk (fun k hk e => by unfold rg at e; omega)
    have HLOW := Lib.hid hlow
    clear hlow
    rintro e w3 (⟨h1, rfl, ys, y1, y2, y3, y4, y5⟩ | ⟨h1, ve, rfl, h2⟩)
    · have hb := y4
      have hce : w3.cell? ⟨g, n + 2, none⟩ = some (.int .u8 0) := hb.cellIs (by
        rw [padRow_ys n _ ys y1, List.getElem?_toArray]
        simp [y1, B])
      have hf := hb.frozen (n + 2)
      have hb2 := hb.set_ (n + 2) (.int .u8 0)
      rw [padRow_nought n _ ys y1] at hb2
      have hD3 : BytesAt w3 D ms := BytesAt.kept (w := w2.drewN nq) HD.out y5 (fun a ha (e : a.block = r ∨ a.block = g) => by have := HDL.out a ha; have := HDG.out; omega)
      have hD4 : BytesAt (w3.setCell ⟨g, n + 2, none⟩ (.int .u8 0)) D ms := hD3.kept ((Kept.refl (OneBlk g) _).setOne _ _) (fun a ha (e : a.block = g) => by have := HDL.out a ha; have := HDG.out; omega)
      have hcop : ∃ w5, (Builtin.copy_ #[22, 22] 3 #[(.slice (some ⟨g, 0, none⟩) 0 0), .slice D ms.length cm]).run Tryd.prog (w3.setCell ⟨g, n + 2, none⟩ (.int .u8 0)) = .ok (.int .i64 (ms.length : Int)) w5 ∧ Blk w5 g 5 (splice (B 0 :: B 2 :: (ys.map B ++ B 0 :: List.replicate ms.length (B 0))) (n + 3) (ms.map B)).toArray ∧ Kept (OneBlk g) (w3.setCell ⟨g, n + 2, none⟩ (.int .u8 0)) w5 := by
        have hfit : n + 3 + ms.length ≤ (B 0 :: B 2 :: (ys.map B ++ B 0 :: List.replicate ms.length (B 0))).length := by
          simp only [List.length_cons, List.length_append, List.length_map, List.length_replicate]; omega
        have := fun dp dl dc h1 h2 => run_copy_bytes (w3.setCell ⟨g, n + 2, none⟩ (.int .u8 0)) 3 dp D dl dc _ cm g (n + 3) _ 5 hb2 ms hD4 rfl ms.length h1 h2 hfit
        simp only [List.take_length] at this
        exact this _ _ _ (by omega) (by intro h; first | rfl | (exfalso; omega))
      obtain ⟨w5, hrun, b5, k5⟩ := hcop
      have Y1 := Lib.hid y1
      have Y2 := Lib.hid y2
      have Y3 := Lib.hid y3
      have B5 := Lib.hid b5
      have K5 := Lib.hid k5
      have Y5 := Lib.hid (HLOW.out w3 y5)
      clear y1 y2 y3 y4 y5 hb hb2 hD3 hD4 b5 k5
      try (have e3 : (n : Int) + 3 - (ms.length : Int) = (n : Int) + 3 := by omega)
      have e4 : (n : Int) + 3 - 1 = (n : Int) + 2 := by omega
      go_wp2_with fail
      have b5 := B5.out
      have k5 := K5.out
      go_ret2
      rw [← Y1.out, padRow_msg ys ms] at b5
      refine ⟨_, _, rfl, .inl ⟨by omega, rfl, g, ys, by first | rfl | (show Value.slice _ _ _ = _; congr 1 <;> omega), Y1.out, Y2.out, ?_, b5.at_ _ (fun j u hu => by simpa using hu), (Y5.out.setNew hg0 _ _).fresh k5 hg0⟩⟩
      have := Y3.out
      unfold wanted at this
      simpa using this
    · have H1 := Lib.hid h1
      have H2 := Lib.hid (HLOW.out w3 h2)
      clear h1 h2
      go_wp2_with fail
      go_ret2
      refine ⟨_, _, rfl, .inr ⟨?_, ⟨ve, rfl⟩, rfl, H2.out⟩⟩
      have := H1.out
      unfold wanted at this
      simpa using this
  · refine (HNZ.out _ nq (by omega)).mono ?_
    have hlow : ∀ w' : World, Kept (rg r g) (w2.drewN nq) w' → Kept NoBlk w0 w' := fun w' hk =>
      (HK0.out.drewN _).step hk (fun k hk e => by unfold rg at e; omega)
    have HLOW := Lib.hid hlow
    clear hlow
    rintro e w3 (⟨h1, rfl, ys, y1, y2, y3, y4, y5⟩ | ⟨h1, ve, rfl, h2⟩)
    · have hb := y4
      have hce : w3.cell? ⟨g, n + 2, none⟩ = some (.int .u8 0) := hb.cellIs (by
        rw [padRow_ys n _ ys y1, List.getElem?_toArray]
        simp [y1, B])
      have hf := hb.frozen (n + 2)
      have hb2 := hb.set_ (n + 2) (.int .u8 0)
      rw [padRow_nought n _ ys y1] at hb2
      have hD3 : BytesAt w3 D ms := BytesAt.kept (w := w2.drewN nq) HD.out y5 (fun a ha (e : a.block = r ∨ a.block = g) => by have := HDL.out a ha; have := HDG.out; omega)
      have hD4 : BytesAt (w3.setCell ⟨g, n + 2, none⟩ (.int .u8 0)) D ms := hD3.kept ((Kept.refl (OneBlk g) _).setOne _ _) (fun a ha (e : a.block = g) => by have := HDL.out a ha; have := HDG.out; omega)
      have hcop : ∃ w5, (Builtin.copy_ #[22, 22] 3 #[(.slice (some ⟨g, n + 3, none⟩) (kk - (n + 3)) (kk - (n + 3))), .slice D ms.length cm]).run Tryd.prog (w3.setCell ⟨g, n + 2, none⟩ (.int .u8 0)) = .ok (.int .i64 (ms.length : Int)) w5 ∧ Blk w5 g 5 (splice (B 0 :: B 2 :: (ys.map B ++ B 0 :: List.replicate ms.length (B 0))) (n + 3) (ms.map B)).toArray ∧ Kept (OneBlk g) (w3.setCell ⟨g, n + 2, none⟩ (.int .u8 0)) w5 := by
        have hfit : n + 3 + ms.length ≤ (B 0 :: B 2 :: (ys.map B ++ B 0 :: List.replicate ms.length (B 0))).length := by
          simp only [List.length_cons, List.length_append, List.length_map, List.length_replicate]; omega
        have := fun dp dl dc h1 h2 => run_copy_bytes (w3.setCell ⟨g, n + 2, none⟩ (.int .u8 0)) 3 dp D dl dc _ cm g (n + 3) _ 5 hb2 ms hD4 rfl ms.length h1 h2 hfit
        simp only [List.take_length] at this
        exact this _ _ _ (by omega) (by intro h; first | rfl | (exfalso; omega))
      obtain ⟨w5, hrun, b5, k5⟩ := hcop
      have Y1 := Lib.hid y1
      have Y2 := Lib.hid y2
      have Y3 := Lib.hid y3
      have B5 := Lib.hid b5
      have K5 := Lib.hid k5
      have Y5 := Lib.hid (HLOW.out w3 y5)
      clear y1 y2 y3 y4 y5 hb hb2 hD3 hD4 b5 k5
      try (have e3 : (n : Int) + 3 - (ms.length : Int) = (n : Int) + 3 := by omega)
      have e4 : (n : Int) + 3 - 1 = (n : Int) + 2 := by omega
      go_wp2_with fail
      have b5 := B5.out
      have k5 := K5.out
      go_ret2
      rw [← Y1.out, padRow_msg ys ms] at b5
      refine ⟨_, _, rfl, .inl ⟨by omega, rfl, g, ys, by first | rfl | (show Value.slice _ _ _ = _; congr 1 <;> omega), Y1.out, Y2.out, ?_, b5.at_ _ (fun j u hu => by simpa using hu), (Y5.out.setNew hg0 _ _).fresh k5 hg0⟩⟩
      have := Y3.out
      unfold wanted at this
      simpa using this
    · have H1 := Lib.hid h1
      have H2 := Lib.hid (HLOW.out w3 h2)
      clear h1 h2
      go_wp2_with fail
      go_ret2
      refine ⟨_, _, rfl, .inr ⟨?_, ⟨ve, rfl⟩, rfl, H2.out⟩⟩
      have := H1.out
      unfold wanted at this
      simpa using this

end Go.Proofs.YtcjjcghkokgjfaaDoor
