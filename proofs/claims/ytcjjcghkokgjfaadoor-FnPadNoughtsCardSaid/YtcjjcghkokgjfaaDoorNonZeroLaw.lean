/-
  ZZNonZeroRandomBytes, impl.NonZero, and the walk of FnNonZero.
-/
import Derived.Test.YtcjjcghkokgjfaaDoorNonZero
import Derived.Test.YtcjjcghkokgjfaaDoorGlobs
import Derived.Test.YtcjjcghkokgjfaaDoorHasNought
import Derived.Test.YtcjjcghkokgjfaaDoorLong
namespace Go.Proofs.YtcjjcghkokgjfaaDoor
open Go.RowKit

/-- What so many bytes out of given ones are. -/
def NZRes (n : Nat) (xs : List UInt8) (w : World) (v er : Value) (w' : World) : Prop :=
  (n ≤ xs.length ∧ er = .nilIface ∧ ∃ (g : Nat) (ys : List UInt8), v = .slice (some ⟨g, 0, none⟩) n n ∧ ys.length = n ∧ (∀ x ∈ ys, x ≠ 0) ∧ ((∀ x ∈ xs.take n, x ≠ 0) → ys = xs.take n) ∧ BytesAt w' (some ⟨g, 0, none⟩) ys ∧ Kept NoBlk w w') ∨
  ((xs.length < n ∨ ∃ x ∈ xs.take n, x = 0) ∧ (∃ ve : Addr, er = .iface 63 (.pointer (some ve))) ∧ (∃ g, v = .slice (some ⟨g, 0, none⟩) n n) ∧ Kept NoBlk w w')

theorem zeroRow_list (n : Nat) : zeroRow n = ((List.replicate n (0 : UInt8)).map B).toArray := rfl

theorem zzNonZero_any (r n : Nat) (A : Option Addr) (c : Nat) (xs : List UInt8) (ea ua : Addr) (w0 w : World) (hn : n ≤ 1000000) (hr : Rdr w r A c xs 0) (hG : Globs w ea ua) (hk0 : Kept NoBlk w0 w) (hr0 : w0.heap.size ≤ r) (hAl : ∀ a, A = some a → a.block < w.heap.size)
    (hrb : 1 < r ∧ 2 < r) :
    Calls Tryd.prog 16 #[.int .i64 n, .iface 44 (.pointer (some ⟨r, 0, none⟩))] w fun e w' => ∃ v er, e = .returned (.tuple #[v, er]) ∧ NZRes n xs w0 v er w' := by
  have hmk := fun w' => make_bytes w' n (by omega)
  obtain ⟨⟨p, hb⟩, hat, hc, hl⟩ := hr
  have hrl := hb.lt
  have hr1 : Rdr (w.alloc (.cells (zeroRow n) 5)) r A c xs 0 := ⟨⟨p, hb.alloc _⟩, hat.alloc _, hc, hl⟩
  have hA : ∀ a, A = some a → a.block ≠ w.heap.size := fun a ha => Nat.ne_of_lt (hAl a ha)
  have hG1 : Globs (w.alloc (.cells (zeroRow n) 5)) ea ua := hG.kept ((Kept.refl NoBlk w).alloc _) (fun e => e) (fun e => e)
  have HR1 := Lib.hid hr1
  have HG1 := Lib.hid hG1
  have HA := Lib.hid hA
  have HRB := Lib.hid hrb
  have HK0 := Lib.hid hk0
  clear hb hat hr1 hG hG1 hA hrb hk0
  go_enter Tryd.func16, Tryd.ntmps16
  go_wp2_with fail
  refine (nonZero_any r w.heap.size 0 n n (zeroRow n).toList A c xs 0 ea ua _ (Nat.le_refl _) (by omega) HR1.out (Nat.zero_le _) (Blk.new w _ _) (by simp [zeroRow]) HA.out HG1.out HRB.out (by have := HRB.out; omega)).mono ?_
  have hlow : ∀ w' : World, Kept (rg r w.heap.size) (w.alloc (.cells (zeroRow n) 5)) w' → Kept NoBlk w0 w' := fun w' hk =>
    (HK0.out.alloc _).step hk (fun k hk e => by have := HK0.out.size; unfold rg at e; omega)
  have HLOW := Lib.hid hlow
  clear hlow
  rintro e w1 (⟨h1, rfl, ys, y1, y2, y3, y4, y5⟩ | ⟨h1, ve, rfl, h2⟩)
  · have hsp : splice (zeroRow n).toList 0 (ys.map B) = ys.map B := by
      unfold splice
      simp [zeroRow, y1]
    rw [hsp] at y4
    have hat : BytesAt w1 (some ⟨w.heap.size, 0, none⟩) ys := y4.at_ _ (fun j u hu => by simpa using hu)
    have Y1 := Lib.hid y1
    have Y2 := Lib.hid y2
    have Y3 := Lib.hid y3
    have Y4 := Lib.hid hat
    have Y5 := Lib.hid (HLOW.out w1 y5)
    clear y1 y2 y3 y4 y5 hsp hat
    go_wp2_with fail
    go_ret2
    refine ⟨_, _, rfl, .inl ⟨by omega, rfl, _, ys, rfl, Y1.out, Y2.out, ?_, Y4.out, Y5.out⟩⟩
    have := Y3.out
    unfold wanted at this
    simpa using this
  · have H1 := Lib.hid h1
    have H2 := Lib.hid (HLOW.out w1 h2)
    clear h1 h2
    go_wp2_with fail
    go_ret2
    refine ⟨_, _, rfl, .inr ⟨?_, ⟨ve, rfl⟩, ⟨_, rfl⟩, H2.out⟩⟩
    have := H1.out
    unfold wanted at this
    simpa using this

/-- What impl.NonZero gives. -/
def NZGives (n : Nat) (xs : List UInt8) (w : World) (e : Ending) (w' : World) : Prop :=
  (n ≤ xs.length ∧ ∃ (A : Option Addr) (c : Nat) (ys : List UInt8), e = .returned (.tuple #[.slice A n c, .bool true]) ∧ ys.length = n ∧ (∀ x ∈ ys, x ≠ 0) ∧ ((∀ x ∈ xs.take n, x ≠ 0) → ys = xs.take n) ∧ BytesAt w' A ys ∧ Kept NoBlk w w') ∨
  ((xs.length < n ∨ ∃ x ∈ xs.take n, x = 0) ∧ e = .returned (.tuple #[.slice none 0 0, .bool false]) ∧ Kept NoBlk w w')

theorem implNonZero_any (n : Nat) (A : Option Addr) (c : Nat) (xs : List UInt8) (ea ua : Addr) (w : World) (hn : n ≤ 1000000) (hx : BytesAt w A xs) (hl : xs.length ≤ 2147483647) (hG : Globs w ea ua)
    (hsz : 1 < w.heap.size ∧ 2 < w.heap.size) :
    Calls Tryd.prog 7 #[.int .i64 n, .slice A xs.length c] w (NZGives n xs w) := by
  have HX := Lib.hid hx
  have HG := Lib.hid hG
  have HSZ := Lib.hid hsz
  clear hx hG hsz
  go_enter Tryd.func7, Tryd.ntmps7
  go_wp2_with fail
  refine (copied_any w A c xs HX.out (by omega)).mono ?_
  rintro e w1 ⟨v, rfl, hown, hk⟩
  obtain ⟨A1, c1, rfl, hc1, hm1, hat, _⟩ := own_form hown
  have hAl := own_lt hown
  have HK := Lib.hid hk
  have HAT := Lib.hid hat
  have HAL := Lib.hid hAl
  clear hk hown hat hAl
  go_wp2_with fail
  refine (newReader_any A1 xs.length c1 w1).mono ?_
  rintro e w2 ⟨rfl, rfl⟩
  have hr2 : Rdr (w1.alloc (.cells #[.slice A1 xs.length c1, .int .i64 0, .int .i64 (-1)] 55)) w1.heap.size A1 c1 xs 0 := ⟨⟨-1, Blk.new _ _ _⟩, BytesAt.alloc HAT.out _, hc1, hl⟩
  have hz := zzNonZero_any w1.heap.size n A1 c1 xs ea ua w _ hn hr2 (HG.out.kept (HK.out.alloc _) (fun e => e) (fun e => e)) (HK.out.alloc _) HK.out.size (fun a ha => by have := (HAL.out a ha).2; simp; omega)
    (by have := HSZ.out; have := HK.out.size; omega)
  have HZ := Lib.hid hz
  clear hz hr2
  go_wp2_with fail
  refine HZ.out.mono ?_
  rintro e w3 ⟨v, er, rfl, (⟨z1, rfl, g, ys, rfl, y1, y2, y3, y4, y5⟩ | ⟨z1, ⟨ve, rfl⟩, ⟨g, rfl⟩, z2⟩)⟩
  · have Y1 := Lib.hid y1
    have Y2 := Lib.hid y2
    have Y3 := Lib.hid y3
    have Y4 := Lib.hid y4
    have Y5 := Lib.hid y5
    have he := either_ok (some ⟨g, 0, none⟩) n ys w3 y4 (by omega)
    rw [y1] at he
    have HE := Lib.hid he
    clear y1 y2 y3 y4 y5 he HZ
    go_wp2_with fail
    refine HE.out.mono ?_
    rintro e w4 ⟨v, rfl, hown, hk⟩
    have hy := Y1.out
    obtain ⟨A2, c2, rfl, _, _, hat2, _⟩ := own_form hown
    have HA2 := Lib.hid hat2
    have HK4 := Lib.hid hk
    clear hown hk hat2 HE hy
    go_wp2_with fail
    go_ret2
    exact .inl ⟨z1, A2, c2, ys, rfl, Y1.out, Y2.out, Y3.out, HA2.out, Y5.out.none HK4.out⟩
  · have Z1 := Lib.hid z1
    have Z2 := Lib.hid z2
    clear z1 z2 HZ
    go_wp2_with fail
    refine (either_err _ ve w3).mono ?_
    rintro e w4 ⟨rfl, rfl⟩
    go_wp2_with fail
    go_ret2
    exact .inr ⟨Z1.out, rfl, Z2.out⟩

theorem row255_good (n : Nat) : ∀ x ∈ (row255 n).take n, x ≠ 0 := by
  intro x hx
  have := List.eq_of_mem_replicate (List.mem_of_mem_take hx)
  rw [this]; decide

/-- With bytes none of which is nought it succeeds. -/
theorem implNonZero_255 (n : Nat) (A : Option Addr) (c : Nat) (ea ua : Addr) (w : World) (hn : n ≤ 1000000) (hx : BytesAt w A (row255 n)) (hG : Globs w ea ua)
    (hsz : 1 < w.heap.size ∧ 2 < w.heap.size) :
    Calls Tryd.prog 7 #[.int .i64 n, .slice A n c] w fun e w' => ∃ (A : Option Addr) (c : Nat), e = .returned (.tuple #[.slice A n c, .bool true]) ∧ Kept NoBlk w w' := by
  have h := implNonZero_any n A c (row255 n) ea ua w hn hx (by simp [row255]; omega) hG hsz
  rw [show (row255 n).length = n by simp [row255]] at h
  refine h.mono ?_
  rintro e w1 (⟨_, A2, c2, ys, rfl, _, _, _, _, k⟩ | ⟨z, _⟩)
  · exact ⟨A2, c2, rfl, k⟩
  · rcases z with z | ⟨x, hx, h0⟩
    · simp [row255] at z
    · exact absurd h0 (row255_good n x hx)

theorem fnNonZero_walk (a : Int) (A : Option Addr) (cap : Nat) (xs : List UInt8) (w : World) (ha0 : 0 ≤ a) (ha1 : a ≤ 255) (hx : BytesAt w A xs) (hc : xs.length ≤ cap) (_hm : cap ≤ maxLen) (ea ua : Addr) (hG : Globs w ea ua)
    (hsz : 1 < w.heap.size ∧ 2 < w.heap.size) :
    Calls Tryd.prog 3 #[.int .u8 a, .slice A xs.length cap] w fun e w' => e = .returned (.bool true) ∧ Kept NoBlk w w' := by
  by_cases h1 : 2147483647 < xs.length
  · go_enter Tryd.func3, Tryd.ntmps3
    go_wp2_with fail
    go_ret
    exact ⟨rfl, Kept.refl _ _⟩
  have hlong := long_any w.heap.size [(A, xs.length, cap)] (w.alloc (.cells #[.slice A xs.length cap] 22))
    (at_new w 22 ([(A, xs.length, cap)].map Piece.val)) (by simp) (by intro p hp; simp at hp; subst hp; simp; omega)
  rw [show lensOf [(A, xs.length, cap)] = xs.length by simp [lensOf]] at hlong
  by_cases h3 : 65536 < xs.length
  · rw [decide_eq_true (by simpa using h3)] at hlong
    have HL := Lib.hid hlong
    clear hlong
    go_enter Tryd.func3, Tryd.ntmps3
    go_wp2_with fail
    refine HL.out.mono ?_
    rintro e w' ⟨rfl, rfl⟩
    go_wp2_with fail
    go_ret
    exact ⟨rfl, (Kept.refl _ _).alloc _⟩
  rw [decide_eq_false (by simpa using h3)] at hlong
  have HL := Lib.hid hlong
  obtain ⟨n, rfl⟩ := Int.eq_ofNat_of_zero_le ha0
  have HX := Lib.hid (hx.alloc (.cells #[.slice A xs.length cap] 22))
  have hnz := implNonZero_any n A cap xs ea ua (w.alloc (.cells #[.slice A xs.length cap] 22)) (by omega) HX.out (by omega) (hG.kept ((Kept.refl NoBlk w).alloc _) (fun e => e) (fun e => e)) (by simp; omega)
  have HNZ := Lib.hid hnz
  have hk1 : Kept NoBlk w (w.alloc (.cells #[.slice A xs.length cap] 22)) := (Kept.refl _ w).alloc _
  have HK1 := Lib.hid hk1
  have HG := Lib.hid hG
  have HSZ := Lib.hid hsz
  clear hlong hx hnz hk1 hG hsz
  go_enter Tryd.func3, Tryd.ntmps3
  go_wp2_with fail
  refine HL.out.mono ?_
  rintro e w' ⟨rfl, rfl⟩
  go_wp2_with fail
  refine HNZ.out.mono ?_
  clear HNZ HL
  rintro e w1 (⟨z1, A2, c2, ys, rfl, y1, y2, y3, y4, y5⟩ | ⟨z1, rfl, z2⟩)
  · have hlen : ¬ xs.length < n := by omega
    have htl : (xs.take n).length = n := by rw [List.length_take]; omega
    have hxt : BytesAt w1 A (xs.take n) := by
      have := At.take (HX.out.still y5) n
      unfold BytesAt
      rw [List.map_take]; exact this
    have hh := hasNought_any A cap (xs.take n) w1 hxt (by omega)
    rw [htl] at hh
    have hsame := same_any w1 A2 A c2 cap ys (xs.take n) y4 hxt
    rw [y1, htl] at hsame
    have HH := Lib.hid hh
    have HS := Lib.hid hsame
    have Y1 := Lib.hid y1
    have Y2 := Lib.hid y2
    have Y3 := Lib.hid y3
    have Y4 := Lib.hid y4
    have Y5 := Lib.hid y5
    clear hh hsame y1 y2 y3 y4 y5 z1 htl hxt
    rcases Bool.eq_false_or_eq_true (hasZ (xs.take n)) with hz | hz
    · have HZ := Lib.hid hz
      clear hz
      go_wp2_with fail
      refine HH.out.mono ?_
      rintro e w' ⟨rfl, rfl⟩
      rw [HZ.out]
      go_wp2_with fail
      refine (modulus_any n w1 (by omega)).mono ?_
      rintro e w2 ⟨rfl, m1, m2⟩
      have h255 := implNonZero_255 n (some ⟨w1.heap.size, 0, none⟩) n ea ua w2 (by omega) (m1.at_ _ (fun j u hu => by simpa using hu)) ((((HG.out.kept HK1.out (fun e => e) (fun e => e))).kept Y5.out (fun e => e) (fun e => e)).kept m2 (fun e => e) (fun e => e))
        (by have := HSZ.out; have := HK1.out.size; have := Y5.out.size; have := m2.size; omega)
      have H255 := Lib.hid h255
      have M2 := Lib.hid m2
      clear h255 m1 m2
      go_wp2_with fail
      refine H255.out.mono ?_
      rintro e w3 ⟨A3, c3, rfl, k3⟩
      have K3 := Lib.hid k3
      have hh3 := hasNought_any A2 c2 ys w3 (((Y4.out.still M2.out)).still K3.out) (by have := Y1.out; omega)
      rw [Y1.out, hasZ_false.2 Y2.out] at hh3
      have HH3 := Lib.hid hh3
      clear k3 hh3 H255
      go_wp2_with fail
      refine HH3.out.mono ?_
      rintro e w' ⟨rfl, rfl⟩
      go_wp2_with fail
      go_ret
      exact ⟨rfl, ((HK1.out.none Y5.out).none M2.out).none K3.out⟩
    · have HZ := Lib.hid hz
      clear hz
      go_wp2_with fail
      refine HH.out.mono ?_
      rintro e w' ⟨rfl, rfl⟩
      rw [HZ.out]
      go_wp2_with fail
      refine HS.out.mono ?_
      rintro e w' ⟨rfl, rfl⟩
      rw [Y3.out (hasZ_false.1 HZ.out), beq_self_eq_true]
      go_wp2_with fail
      go_ret
      exact ⟨rfl, HK1.out.none Y5.out⟩
  · by_cases hlen : xs.length < n
    · have Z2 := Lib.hid z2
      clear z1 z2
      go_wp2_with fail
      go_ret
      exact ⟨rfl, HK1.out.none Z2.out⟩
    · have hz : hasZ (xs.take n) = true := hasZ_true.2 (z1.resolve_left hlen)
      have htl : (xs.take n).length = n := by rw [List.length_take]; omega
      have hxt : BytesAt w1 A (xs.take n) := by
        have := At.take (HX.out.still z2) n
        unfold BytesAt
        rw [List.map_take]; exact this
      have hh := hasNought_any A cap (xs.take n) w1 hxt (by omega)
      rw [htl, hz] at hh
      have HH := Lib.hid hh
      have Z2 := Lib.hid z2
      clear z1 z2 hz hh htl hxt
      go_wp2_with fail
      refine HH.out.mono ?_
      rintro e w' ⟨rfl, rfl⟩
      go_wp2_with fail
      refine (modulus_any n w1 (by omega)).mono ?_
      rintro e w2 ⟨rfl, m1, m2⟩
      have h255 := implNonZero_255 n (some ⟨w1.heap.size, 0, none⟩) n ea ua w2 (by omega) (m1.at_ _ (fun j u hu => by simpa using hu)) ((((HG.out.kept HK1.out (fun e => e) (fun e => e))).kept Z2.out (fun e => e) (fun e => e)).kept m2 (fun e => e) (fun e => e))
        (by have := HSZ.out; have := HK1.out.size; have := Z2.out.size; have := m2.size; omega)
      have H255 := Lib.hid h255
      have M2 := Lib.hid m2
      clear h255 m1 m2
      go_wp2_with fail
      refine H255.out.mono ?_
      rintro e w3 ⟨A3, c3, rfl, k3⟩
      have K3 := Lib.hid k3
      clear k3 H255
      go_wp2_with fail
      go_ret
      exact ⟨rfl, ((HK1.out.none Z2.out).none M2.out).none K3.out⟩

end Go.Proofs.YtcjjcghkokgjfaaDoor
