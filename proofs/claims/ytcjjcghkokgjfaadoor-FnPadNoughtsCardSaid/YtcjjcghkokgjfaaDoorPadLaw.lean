/-
  impl.Pad, and the walk of FnPad.
-/
import Derived.Test.YtcjjcghkokgjfaaDoorPad
import Derived.Test.YtcjjcghkokgjfaaDoorBeyond
import Derived.Test.YtcjjcghkokgjfaaDoorJoined
namespace Go.Proofs.YtcjjcghkokgjfaaDoor
open Go.RowKit

theorem w64 (n : Int) (h : -9223372036854775808 ≤ n) (h' : n ≤ 9223372036854775807) : wrap64 n = n := by unfold wrap64; omega

/-- What impl.Pad gives. -/
def PadGives (n : Nat) (xs ms : List UInt8) (w : World) (e : Ending) (w' : World) : Prop :=
  (n ≤ xs.length ∧ ∃ (A : Option Addr) (c : Nat) (ys : List UInt8), e = .returned (.tuple #[.slice A (encOf ys ms).length c, .bool true]) ∧ ys.length = n ∧ (∀ x ∈ ys, x ≠ 0) ∧ ((∀ x ∈ xs.take n, x ≠ 0) → ys = xs.take n) ∧ BytesAt w' A (encOf ys ms) ∧ (encOf ys ms).length ≤ c ∧ Kept NoBlk w w') ∨
  ((xs.length < n ∨ ∃ x ∈ xs.take n, x = 0) ∧ e = .returned (.tuple #[.slice none 0 0, .bool false]) ∧ Kept NoBlk w w')

theorem implPad_any (n kk : Nat) (A : Option Addr) (c : Nat) (xs : List UInt8) (D : Option Addr) (cm : Nat) (ms : List UInt8) (ea ua : Addr) (w : World) (hn : n ≤ 1000000) (hms : ms.length ≤ 1000000) (hkk : kk = ms.length + n + 3) (hx : BytesAt w A xs) (hl : xs.length ≤ 2147483647) (hD : BytesAt w D ms) (hG : Globs w ea ua)
    (hsz : 1 < w.heap.size ∧ 2 < w.heap.size) :
    Calls Tryd.prog 12 #[.int .i64 kk, .slice A xs.length c, .slice D ms.length cm] w (PadGives n xs ms w) := by
  have HX := Lib.hid hx
  have HD := Lib.hid hD
  have HG := Lib.hid hG
  have HSZ := Lib.hid hsz
  have HKK := Lib.hid hkk
  clear hx hG hsz hD hkk
  go_enter Tryd.func12, Tryd.ntmps12
  go_wp2_with fail
  refine (copied_any w A c xs HX.out (by omega)).mono ?_
  rintro e w1 ⟨v, rfl, hown, hk⟩
  obtain ⟨A1, c1, rfl, hc1, hm1, hat, _⟩ := own_form hown
  have hAl := own_lt hown
  have HK := Lib.hid hk
  have HAT := Lib.hid hat
  have HAL := Lib.hid hAl
  clear hk hown hat hAl
  go_wp2_with fail
  refine (newReader_any A1 xs.length c1 w1).mono ?_
  rintro e w2 ⟨rfl, rfl⟩
  have hr2 : Rdr (w1.alloc (.cells #[.slice A1 xs.length c1, .int .i64 0, .int .i64 (-1)] 55)) w1.heap.size A1 c1 xs 0 := ⟨⟨-1, Blk.new _ _ _⟩, BytesAt.alloc HAT.out _, hc1, hl⟩
  have hD2 : BytesAt (w1.alloc (.cells #[.slice A1 xs.length c1, .int .i64 0, .int .i64 (-1)] 55)) D ms := (HD.out.still HK.out).alloc _
  obtain ⟨wr, hwr⟩ : ∃ wr, (w1.alloc (.cells #[.slice A1 xs.length c1, .int .i64 0, .int .i64 (-1)] 55)) = wr := ⟨_, rfl⟩
  have hkr : Kept NoBlk w wr := by rw [← hwr]; exact HK.out.alloc _
  have hsr : wr.heap.size = w1.heap.size + 1 := by rw [← hwr]; simp
  rw [hwr] at hr2 hD2
  have hcd := copied_any wr D cm ms hD2 (by omega)
  have HR2 := Lib.hid hr2
  have HCD := Lib.hid hcd
  have HKR := Lib.hid hkr
  have HSR := Lib.hid hsr
  clear hcd hr2 hD2 hkr hsr
  go_wp2_with fail
  clear hwr
  refine HCD.out.mono ?_
  rintro e w3 ⟨v, rfl, hown, hk3⟩
  obtain ⟨A2, c2, rfl, hc2, hm2, hat2, _⟩ := own_form hown
  have hAl2 := own_lt hown
  have hk03 := HKR.out.none hk3
  have hr3 : Rdr w3 w1.heap.size A1 c1 xs 0 := by
    obtain ⟨⟨p, hb⟩, hat, h1, h2⟩ := HR2.out
    exact ⟨⟨p, hb.kept hk3 (fun e => e)⟩, hat.still hk3, h1, h2⟩
  have hpad := pad_any w1.heap.size n kk A1 c1 xs A2 c2 ms ea ua w w3 hn hms HKK.out hr3 (HG.out.kept hk03 (fun e => e) (fun e => e)) hk03 HK.out.size (fun a ha => by have := (HAL.out a ha).2; have := HSR.out; have := hk3.size; omega)
    hat2 (fun a ha => by have := (hAl2 a ha); have := HSR.out; omega) hc2 (by have := HSZ.out; have := HK.out.size; omega)
  have HP := Lib.hid hpad
  have HK3 := Lib.hid hk03
  clear hpad hr3 hk03 hk3 hown hat2 hAl2 HR2 HCD HKR
  go_wp2_with fail
  refine HP.out.mono ?_
  rintro e w4 ⟨v, er, rfl, (⟨z1, rfl, g, ys, rfl, y1, y2, y3, y4, y5⟩ | ⟨z1, ⟨ve, rfl⟩, rfl, z2⟩)⟩
  · have hel := encOf_length ys ms
    have he := either_ok (some ⟨g, 0, none⟩) (ms.length + n + 3) (encOf ys ms) w4 y4 (by omega)
    rw [hel, y1] at he
    have Y1 := Lib.hid y1
    have Y2 := Lib.hid y2
    have Y3 := Lib.hid y3
    have Y5 := Lib.hid y5
    have HE := Lib.hid he
    have HEL := Lib.hid hel
    clear y1 y2 y3 y4 y5 he HP hel
    go_wp2_with fail
    refine HE.out.mono ?_
    rintro e w5 ⟨v, rfl, hown, hk⟩
    have hy := HEL.out
    rw [Y1.out] at hy
    rw [← hy] at hown
    obtain ⟨A5, c5, rfl, hc5, _, hat5, _⟩ := own_form hown
    have HA5 := Lib.hid hat5
    have HK5 := Lib.hid hk
    have HC5 := Lib.hid hc5
    clear hown hk hat5 HE hy hc5
    go_wp2_with fail
    go_ret2
    exact .inl ⟨z1, A5, c5, ys, rfl, Y1.out, Y2.out, Y3.out, HA5.out, HC5.out, Y5.out.none HK5.out⟩
  · have Z1 := Lib.hid z1
    have Z2 := Lib.hid z2
    clear z1 z2 HP
    go_wp2_with fail
    refine (either_err _ ve w4).mono ?_
    rintro e w5 ⟨rfl, rfl⟩
    go_wp2_with fail
    go_ret2
    exact .inr ⟨Z1.out, rfl, Z2.out⟩

set_option maxHeartbeats 800000 in
theorem fnPad_walk (a : Int) (A : Option Addr) (cap : Nat) (xs : List UInt8) (D : Option Addr) (capd : Nat) (ms : List UInt8) (w : World) (ha0 : 0 ≤ a) (ha1 : a ≤ 65535) (hx : BytesAt w A xs) (hc : xs.length ≤ cap) (_hm : cap ≤ maxLen) (hD : BytesAt w D ms) (_hcd : ms.length ≤ capd) (_hmd : capd ≤ maxLen) (ea ua : Addr) (hG : Globs w ea ua)
    (hsz : 1 < w.heap.size ∧ 2 < w.heap.size) :
    Calls Tryd.prog 4 #[.int .u16 a, .slice A xs.length cap, .slice D ms.length capd] w fun e w' => e = .returned (.bool true) ∧ Kept NoBlk w w' := by
  unfold maxLen at _hm _hmd
  by_cases h1 : 2147483647 < xs.length
  · go_enter Tryd.func4, Tryd.ntmps4
    go_wp2_with fail
    go_ret
    exact ⟨rfl, Kept.refl _ _⟩
  by_cases h2 : 2147483647 < ms.length
  · go_enter Tryd.func4, Tryd.ntmps4
    go_wp2_with fail
    go_ret
    exact ⟨rfl, Kept.refl _ _⟩
  have hbey := beyond_any w.heap.size [xs.length, ms.length] (w.alloc (.cells #[.int .i64 xs.length, .int .i64 ms.length] 3))
    (at_new w 3 ([xs.length, ms.length].map fun (n : Nat) => Value.int .i64 (n : Int))) (by simp)
  by_cases h3 : 1048576 < xs.length ∨ 1048576 < ms.length
  · rw [show ([xs.length, ms.length].any fun n => decide (1048576 < n)) = true by simpa using h3] at hbey
    have HB := Lib.hid hbey
    clear hbey
    go_enter Tryd.func4, Tryd.ntmps4
    go_wp2_with fail
    refine HB.out.mono ?_
    rintro e w' ⟨rfl, rfl⟩
    go_wp2_with fail
    go_ret
    exact ⟨rfl, (Kept.refl _ _).alloc _⟩
  rw [show ([xs.length, ms.length].any fun n => decide (1048576 < n)) = false by simp; omega] at hbey
  obtain ⟨w1, hw1⟩ : ∃ w1, w.alloc (.cells #[.int .i64 xs.length, .int .i64 ms.length] 3) = w1 := ⟨_, rfl⟩
  have hk1 : Kept NoBlk w w1 := by rw [← hw1]; exact (Kept.refl _ _).alloc _
  rw [hw1] at hbey
  have HB := Lib.hid hbey
  have hlong := long_any w1.heap.size [(A, xs.length, cap), (D, ms.length, capd)] (w1.alloc (.cells #[.slice A xs.length cap, .slice D ms.length capd] 22))
    (at_new w1 22 ([(A, xs.length, cap), (D, ms.length, capd)].map Piece.val)) (by simp) (by intro p hp; simp at hp; rcases hp with rfl | rfl <;> simp <;> omega)
  rw [show lensOf [(A, xs.length, cap), (D, ms.length, capd)] = xs.length + ms.length by simp [lensOf]] at hlong
  obtain ⟨a, rfl⟩ := Int.eq_ofNat_of_zero_le ha0
  obtain ⟨n, hn⟩ : ∃ n, 8 + a % 500 = n := ⟨_, rfl⟩
  have hn1 : n ≤ 507 := by omega
  have hn500 : (8 : Int) + (a : Int) % 500 = (n : Int) := by omega
  have wa : wrap64 (a : Int) = (a : Int) := w64 _ (by omega) (by omega)
  have ra : (a : Int).tmod 500 = (a : Int) % 500 := Int.tmod_eq_emod_of_nonneg (by omega)
  have HX := Lib.hid ((hx.still hk1).alloc (.cells #[.slice A xs.length cap, .slice D ms.length capd] 22))
  have HD := Lib.hid ((hD.still hk1).alloc (.cells #[.slice A xs.length cap, .slice D ms.length capd] 22))
  have hk2 : Kept NoBlk w (w1.alloc (.cells #[.slice A xs.length cap, .slice D ms.length capd] 22)) := hk1.alloc _
  have HG := Lib.hid (hG.kept hk2 (fun e => e) (fun e => e))
  have HSZ := Lib.hid hsz
  have HK2 := Lib.hid hk2
  by_cases h4 : 65536 < xs.length + ms.length
  · rw [decide_eq_true h4] at hlong
    have HL := Lib.hid hlong
    clear hlong hx hD hG hsz hbey hk1 hk2 hn ha0 ha1
    go_enter Tryd.func4, Tryd.ntmps4
    go_wp2_with fail
    refine HB.out.mono ?_
    rintro e w' ⟨rfl, rfl⟩
    clear hw1
    go_wp2_with fail
    refine HL.out.mono ?_
    rintro e w' ⟨rfl, rfl⟩
    go_wp2_with fail
    go_ret
    exact ⟨rfl, HK2.out⟩
  rw [decide_eq_false h4] at hlong
  have HL := Lib.hid hlong
  clear hlong hx hD hG hsz hbey hk1 hk2 hn ha0 ha1
  by_cases h5 : xs.length < n
  · have h5d : decide ((xs.length : Int) < (n : Int)) = true := decide_eq_true (by omega)
    go_enter Tryd.func4, Tryd.ntmps4
    go_wp2_with fail
    refine HB.out.mono ?_
    rintro e w' ⟨rfl, rfl⟩
    clear hw1
    go_wp2_with fail
    refine HL.out.mono ?_
    rintro e w' ⟨rfl, rfl⟩
    go_wp2_with fail
    go_ret
    exact ⟨rfl, HK2.out⟩
  have h5d : decide ((xs.length : Int) < (n : Int)) = false := decide_eq_false (by omega)
  obtain ⟨w2, hw2⟩ : ∃ w2, w1.alloc (.cells #[.slice A xs.length cap, .slice D ms.length capd] 22) = w2 := ⟨_, rfl⟩
  rw [hw2] at HX HD HG HK2 HL
  have htl : (xs.take n).length = n := by rw [List.length_take]; omega
  have hxt : BytesAt w2 A (xs.take n) := by
    have := At.take HX.out n
    unfold BytesAt
    rw [List.map_take]; exact this
  have hh := hasNought_any A cap (xs.take n) w2 hxt (by omega)
  rw [htl] at hh
  have hp := implPad_any n (ms.length + n + 3) A cap xs D capd ms ea ua w2 (by omega) (by omega) rfl HX.out (by omega) HD.out HG.out (by have := HSZ.out; have := HK2.out.size; omega)
  have HH := Lib.hid hh
  have HP := Lib.hid hp
  have HXT := Lib.hid hxt
  clear hh hp hxt
  have HTL := Lib.hid htl
  clear htl
  rcases Bool.eq_false_or_eq_true (hasZ (xs.take n)) with hz | hz
  · have HZ := Lib.hid hz
    clear hz
    go_enter Tryd.func4, Tryd.ntmps4
    go_wp2_with fail
    refine HB.out.mono ?_
    rintro e w' ⟨rfl, rfl⟩
    clear hw1
    go_wp2_with fail
    refine HL.out.mono ?_
    rintro e w' ⟨rfl, rfl⟩
    clear hw2
    go_wp2_with fail
    refine HH.out.mono ?_
    rintro e w' ⟨rfl, rfl⟩
    rw [HZ.out]
    go_wp2_with fail
    go_ret
    exact ⟨rfl, HK2.out⟩
  · have HZ := Lib.hid hz
    clear hz
    go_enter Tryd.func4, Tryd.ntmps4
    go_wp2_with fail
    refine HB.out.mono ?_
    rintro e w' ⟨rfl, rfl⟩
    clear hw1
    go_wp2_with fail
    refine HL.out.mono ?_
    rintro e w' ⟨rfl, rfl⟩
    clear hw2
    go_wp2_with fail
    refine HH.out.mono ?_
    rintro e w' ⟨rfl, rfl⟩
    rw [HZ.out]
    go_wp2_with fail
    refine HP.out.mono ?_
    clear HP HH HL HB
    rintro e w3 (⟨z1, A2, c2, ys, rfl, y1, y2, y3, y4, y5, y6⟩ | ⟨z1, rfl, z2⟩)
    · obtain rfl := y3 (hasZ_false.1 HZ.out)
      have Y4 := Lib.hid y4
      have Y6 := Lib.hid y6
      have HXT3 := Lib.hid (HXT.out.still y6)
      have HD3 := Lib.hid (HD.out.still y6)
      clear y1 y2 y3 y4 y5 y6
      go_wp2_with fail
      obtain ⟨ps, hps⟩ : ∃ ps : List BPiece, ps = [(some ⟨w3.heap.size, 0, none⟩, 2, [0, 2]), (A, cap, xs.take n), (some ⟨w3.heap.size + 1, 0, none⟩, 1, [0]), (D, capd, ms)] := ⟨_, rfl⟩
      have hpv : ps.map BPiece.val = [.slice (some ⟨w3.heap.size, 0, none⟩) 2 2, .slice A n cap, .slice (some ⟨w3.heap.size + 1, 0, none⟩) 1 1, .slice D ms.length capd] := by
        rw [hps]; simp [BPiece.val, HTL.out]
      have hpl : ps.length = 4 := by rw [hps]; rfl
      have hpj : joinOf ps = encOf (xs.take n) ms := by rw [hps]; simp [joinOf, encOf]
      have hj := joined_any (w3.heap.size + 1 + 1) ps
        (((w3.alloc (Obj.cells #[Value.int IntKind.u8 0, Value.int IntKind.u8 2] 5)).alloc (Obj.cells #[Value.int IntKind.u8 0] 5)).alloc
          (Obj.cells #[Value.slice (some { block := w3.heap.size, off := 0 }) 2 2, Value.slice A n cap, Value.slice (some { block := w3.heap.size + 1, off := 0 }) 1 1, Value.slice D ms.length capd] 22))
        (by rw [hpv]; exact at_new' _ 22 [Value.slice (some { block := w3.heap.size, off := 0 }) 2 2, Value.slice A n cap, Value.slice (some { block := w3.heap.size + 1, off := 0 }) 1 1, Value.slice D ms.length capd] _ (by simp))
        (by omega)
        (by
          intro p hp
          rw [hps] at hp
          simp only [List.mem_cons, List.not_mem_nil, or_false] at hp
          rcases hp with rfl | rfl | rfl | rfl
          · exact ((bytesAt_new _ 5 [0, 2] _ (by simp)).alloc _).alloc _
          · exact ((HXT3.out.alloc _).alloc _).alloc _
          · exact (bytesAt_new _ 5 [0] _ (by simp)).alloc _
          · exact ((HD3.out.alloc _).alloc _).alloc _)
        (by rw [hpj, encOf_length]; have := HTL.out; omega)
      rw [hpl, hpj] at hj
      have HJ := Lib.hid hj
      clear hj hps hpv hpl hpj
      refine HJ.out.mono ?_
      rintro e w4 ⟨v, rfl, hown, hk4⟩
      obtain ⟨A4, c4, rfl, hc4, hm4, hat4, _⟩ := own_form hown
      have hk34 : Kept NoBlk w3 w4 := (((Kept.refl _ _).alloc _).alloc _).alloc _ |>.none hk4
      have hs := same_any w4 A2 A4 c2 c4 _ _ (Y4.out.still hk34) hat4
      rw [beq_self_eq_true] at hs
      have HS := Lib.hid hs
      have HK34 := Lib.hid hk34
      clear hs hk34 hk4 hown hat4 HJ
      go_wp2_with fail
      refine HS.out.mono ?_
      rintro e w' ⟨rfl, rfl⟩
      go_wp2_with fail
      go_ret
      exact ⟨rfl, (HK2.out.none Y6.out).none HK34.out⟩
    · exfalso
      rcases z1 with z | z
      · omega
      · rw [← hasZ_true, HZ.out] at z; cases z

end Go.Proofs.YtcjjcghkokgjfaaDoor
