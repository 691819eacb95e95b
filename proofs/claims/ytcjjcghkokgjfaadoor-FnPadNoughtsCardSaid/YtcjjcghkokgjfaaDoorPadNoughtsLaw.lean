/-
  The walk of FnPadNoughts.
-/
import Derived.Test.YtcjjcghkokgjfaaDoorPadLaw
import Derived.Test.YtcjjcghkokgjfaaDoorImplUnpad
namespace Go.Proofs.YtcjjcghkokgjfaaDoor
open Go.RowKit

theorem zAt_enc (ys ms : List UInt8) (h : ∀ x ∈ ys, x ≠ 0) : zAt (encOf ys ms) = ys.length + 2 := by
  unfold zAt encOf
  simp only [List.drop_succ_cons, List.drop_zero]
  have : (ys ++ 0 :: ms).findIdx (· == 0) = ys.length := by
    induction ys with
    | nil => simp [List.findIdx_cons]
    | cons y ys ih =>
      have hy : (y == 0) = false := beq_eq_false_iff_ne.2 (h y (List.mem_cons_self ..))
      rw [List.cons_append, List.findIdx_cons, hy, ih (fun x hx => h x (List.mem_cons_of_mem _ hx))]
      rfl
  rw [this]; omega
theorem isPad_enc (ys ms : List UInt8) (h : ∀ x ∈ ys, x ≠ 0) (h8 : 8 ≤ ys.length) : isPad (encOf ys ms) = true := by
  unfold isPad
  rw [zAt_enc ys ms h, encOf_length]
  simp only [encOf, List.getElem?_cons_zero, List.getElem?_cons_succ]
  rw [decide_eq_true (show ys.length + 2 < ms.length + ys.length + 3 by omega), decide_eq_true (show 10 ≤ ys.length + 2 by omega)]
  rfl

set_option maxHeartbeats 800000 in
theorem fnPadNoughts_walk (a : Int) (A : Option Addr) (cap : Nat) (xs : List UInt8) (D : Option Addr) (capd : Nat) (ms : List UInt8) (w : World) (ha0 : 0 ≤ a) (ha1 : a ≤ 255) (hx : BytesAt w A xs) (_hc : xs.length ≤ cap) (_hm : cap ≤ maxLen) (hD : BytesAt w D ms) (_hcd : ms.length ≤ capd) (_hmd : capd ≤ maxLen) (ea ua : Addr) (hG : Globs w ea ua)
    (hsz : 1 < w.heap.size ∧ 2 < w.heap.size) :
    Calls Tryd.prog 5 #[.int .u8 a, .slice A xs.length cap, .slice D ms.length capd] w fun e w' => e = .returned (.bool true) ∧ Kept NoBlk w w' := by
  unfold maxLen at _hm _hmd
  by_cases h1 : 2147483647 < xs.length
  · go_enter Tryd.func5, Tryd.ntmps5
    go_wp2_with fail
    go_ret
    exact ⟨rfl, Kept.refl _ _⟩
  by_cases h2 : 2147483647 < ms.length
  · go_enter Tryd.func5, Tryd.ntmps5
    go_wp2_with fail
    go_ret
    exact ⟨rfl, Kept.refl _ _⟩
  have hlong := long_any w.heap.size [(A, xs.length, cap), (D, ms.length, capd)] (w.alloc (.cells #[.slice A xs.length cap, .slice D ms.length capd] 22))
    (at_new w 22 ([(A, xs.length, cap), (D, ms.length, capd)].map Piece.val)) (by simp) (by intro p hp; simp at hp; rcases hp with rfl | rfl <;> simp <;> omega)
  rw [show lensOf [(A, xs.length, cap), (D, ms.length, capd)] = xs.length + ms.length by simp [lensOf]] at hlong
  obtain ⟨a, rfl⟩ := Int.eq_ofNat_of_zero_le ha0
  obtain ⟨n, hn⟩ : ∃ n, 8 + a % 50 = n := ⟨_, rfl⟩
  have hn1 : n ≤ 57 := by omega
  have hn8 : 8 ≤ n := by omega
  have hn50 : (8 : Int) + (a : Int) % 50 = (n : Int) := by omega
  have wa : wrap64 (a : Int) = (a : Int) := w64 _ (by omega) (by omega)
  have ra : (a : Int).tmod 50 = (a : Int) % 50 := Int.tmod_eq_emod_of_nonneg (by omega)
  have HX := Lib.hid (hx.alloc (.cells #[.slice A xs.length cap, .slice D ms.length capd] 22))
  have HD := Lib.hid (hD.alloc (.cells #[.slice A xs.length cap, .slice D ms.length capd] 22))
  have hk2 : Kept NoBlk w (w.alloc (.cells #[.slice A xs.length cap, .slice D ms.length capd] 22)) := (Kept.refl _ _).alloc _
  have HG := Lib.hid (hG.kept hk2 (fun e => e) (fun e => e))
  have HSZ := Lib.hid hsz
  have HK2 := Lib.hid hk2
  by_cases h4 : 65536 < xs.length + ms.length
  · rw [decide_eq_true h4] at hlong
    have HL := Lib.hid hlong
    clear hlong hx hD hG hsz hk2 hn ha0 ha1
    go_enter Tryd.func5, Tryd.ntmps5
    go_wp2_with fail
    refine HL.out.mono ?_
    rintro e w' ⟨rfl, rfl⟩
    go_wp2_with fail
    go_ret
    exact ⟨rfl, HK2.out⟩
  rw [decide_eq_false h4] at hlong
  obtain ⟨w2, hw2⟩ : ∃ w2, w.alloc (.cells #[.slice A xs.length cap, .slice D ms.length capd] 22) = w2 := ⟨_, rfl⟩
  rw [hw2] at HX HD HG HK2 hlong
  have HL := Lib.hid hlong
  have hp := implPad_any n (ms.length + n + 3) A cap xs D capd ms ea ua w2 (by omega) (by omega) rfl HX.out (by omega) HD.out HG.out (by have := HSZ.out; have := HK2.out.size; omega)
  have HP := Lib.hid hp
  clear hlong hx hD hG hsz hk2 hn ha0 ha1 hp
  go_enter Tryd.func5, Tryd.ntmps5
  go_wp2_with fail
  refine HL.out.mono ?_
  rintro e w' ⟨rfl, rfl⟩
  clear hw2 HL
  go_wp2_with fail
  refine HP.out.mono ?_
  clear HP
  rintro e w3 (⟨z1, A2, c2, ys, rfl, y1, y2, y3, y4, y5, y6⟩ | ⟨z1, rfl, z2⟩)
  · clear y3
    obtain ⟨b, off, rfl, _, _⟩ := y4.at_ (k := 0) (by rw [encOf_length]; omega)
    have hel := encOf_length ys ms
    rw [y1] at hel
    have hip := isPad_enc ys ms y2 (by omega)
    have hza := zAt_enc ys ms y2
    rw [y1] at hza
    have hiu := implUnpad_any w3 (some ⟨b, off, none⟩) c2 (encOf ys ms) y4 (by omega) (by omega)
    have e3 : ((n + 2 : Nat) : Int) + 1 = ((n + 3 : Nat) : Int) := by omega
    rw [hip, hza, hel, e3] at hiu
    have HIU := Lib.hid hiu
    have Y1 := Lib.hid y1
    have Y2 := Lib.hid y2
    have Y4 := Lib.hid y4
    have Y6 := Lib.hid y6
    clear hiu hip hza y1 y2 y4 y6 e3
    rw [hel] at y5
    go_wp2_with fail
    refine HIU.out.mono ?_
    rintro e w4 ⟨rfl, k4⟩
    have K4 := Lib.hid k4
    have Y44 := Lib.hid (Y4.out.still k4)
    clear k4
    have hc2 : ¬ c2 = 2 := by omega
    go_wp2_with fail
    have hys : BytesAt w4 (some ⟨b, off + 2, none⟩) ys := by
      have h := At.take (At.drop Y44.out 2 (by simp [encOf])) n
      have e : ((encOf ys ms).map B |>.drop 2).take n = ys.map B := by
        rw [← Y1.out]; simp [encOf]
      rw [e] at h
      exact h
    have hh := hasNought_any _ (c2 - 2) ys w4 hys (by have := Y1.out; omega)
    rw [Y1.out, hasZ_false.2 Y2.out] at hh
    refine hh.mono ?_
    clear hh hys
    rintro e w' ⟨rfl, rfl⟩
    have hms : ∀ m, m = n + 3 → BytesAt w4 (some ⟨b, off + m, none⟩) ms := by
      rintro m rfl
      have h := At.drop Y44.out (n + 3) (by rw [List.length_map, encOf_length, Y1.out]; omega)
      have e : ((encOf ys ms).map B |>.drop (n + 3)) = ms.map B := by
        rw [← Y1.out, show ys.length + 3 = ys.length + 1 + 1 + 1 from rfl]; simp [encOf, List.drop_append, List.drop_eq_nil_of_le]
      rw [e] at h
      exact h
    have HMS := Lib.hid hms
    have HDW := Lib.hid ((HD.out.still Y6.out).still K4.out)
    clear hms
    by_cases hcn : c2 = n + 3
    · have hm0 : ms = [] := List.eq_nil_of_length_eq_zero (by omega)
      have hs := same_any w4 (some ⟨b, off, none⟩) D 0 capd ms ms (by rw [hm0]; exact .inl rfl) HDW.out
      rw [beq_self_eq_true] at hs
      have HS := Lib.hid hs
      clear hs hm0
      go_wp2_with fail
      refine HS.out.mono ?_
      rintro e w' ⟨rfl, rfl⟩
      go_wp2_with fail
      go_ret
      exact ⟨rfl, (HK2.out.none Y6.out).none K4.out⟩
    · have hs := same_any w4 _ D (c2 - (n + 3)) capd ms ms (HMS.out _ rfl) HDW.out
      rw [beq_self_eq_true] at hs
      have HS := Lib.hid hs
      clear hs
      go_wp2_with fail
      refine HS.out.mono ?_
      rintro e w' ⟨rfl, rfl⟩
      go_wp2_with fail
      go_ret
      exact ⟨rfl, (HK2.out.none Y6.out).none K4.out⟩
  · have Z1 := Lib.hid z1
    have Z2 := Lib.hid z2
    clear z1 z2
    go_wp2_with fail
    refine (modulus_any n w3 (by omega)).mono ?_
    rintro e w4 ⟨rfl, m1, m2⟩
    have hk4 := Z2.out.none m2
    have hp := implPad_any n (ms.length + n + 3) (some ⟨w3.heap.size, 0, none⟩) n (row255 n) D capd ms ea ua w4 (by omega) (by omega) rfl (m1.at_ _ (fun j u hu => by simpa using hu)) (by simp [row255]; omega) (HD.out.still hk4) (HG.out.kept hk4 (fun e => e) (fun e => e)) (by have := HSZ.out; have := HK2.out.size; have := hk4.size; omega)
    rw [show (row255 n).length = n by simp [row255]] at hp
    have HP := Lib.hid hp
    have HK4 := Lib.hid hk4
    clear hp hk4 m1 m2
    go_wp2_with fail
    refine HP.out.mono ?_
    clear HP
    rintro e w5 (⟨_, A2, c2, ys, rfl, _, _, _, _, _, y6⟩ | ⟨z, _⟩)
    · have Y6 := Lib.hid y6
      have hk5 := HK4.out.none y6
      have hh := hasNought_any A cap xs w5 (HX.out.still hk5) (by omega)
      have HH := Lib.hid hh
      have HK5 := Lib.hid hk5
      clear y6 hk5 hh
      by_cases hlen : xs.length < n
      · have h5d : decide ((xs.length : Int) < (n : Int)) = true := decide_eq_true (by omega)
        go_wp2_with fail
        go_ret
        exact ⟨rfl, HK2.out.none HK5.out⟩
      · have h5d : decide ((xs.length : Int) < (n : Int)) = false := decide_eq_false (by omega)
        have hz : hasZ xs = true := by
          rcases Z1.out with h | ⟨x, hx, h0⟩
          · exact absurd h hlen
          · exact hasZ_true.2 ⟨x, List.mem_of_mem_take hx, h0⟩
        have HZ := Lib.hid hz
        clear hz
        go_wp2_with fail
        refine HH.out.mono ?_
        rintro e w' ⟨rfl, rfl⟩
        rw [HZ.out]
        go_wp2_with fail
        go_ret
        exact ⟨rfl, HK2.out.none HK5.out⟩
    · exfalso
      rcases z with z | ⟨x, hx, h0⟩
      · simp [row255] at z
      · exact absurd h0 (row255_good n x hx)

end Go.Proofs.YtcjjcghkokgjfaaDoor
