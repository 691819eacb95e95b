/-
  The walk of FnMostSalt.
-/
import Derived.Test.YtmheoenieaemmaaDoorSaltLaw
namespace Go.Proofs.YtmheoenieaemmaaDoor
open Go.RowKit

set_option maxRecDepth 20000 in
theorem fnMostSalt_walk (a k s b : Int) (w : World) (ha0 : 0 ≤ a) (ha1 : a ≤ 255) (_hk : -9223372036854775808 ≤ k ∧ k ≤ 9223372036854775807) (hs : -9223372036854775808 ≤ s ∧ s ≤ 9223372036854775807) (_hb : -9223372036854775808 ≤ b ∧ b ≤ 9223372036854775807) (ea : Addr) (hg : TooLong w ea) :
    Calls Tryd.prog 5 #[.int .u8 a, .agg #[.int .i64 k, .int .i64 s, .int .i64 b]] w fun e w' => e = .returned (.bool true) ∧ Kept NoBlk w w' := by
  obtain ⟨j, rfl⟩ := Int.eq_ofNat_of_zero_le ha0
  have hj : j < 256 := by omega
  have hlen := duo_len j hj
  have HMOD := Lib.hid (fun w => modulus_spec j hj w)
  obtain ⟨m, hm⟩ : ∃ m, Mp (e1 j) * Mp (e2 j) = m := ⟨_, rfl⟩
  rw [hm] at hlen HMOD
  obtain ⟨hl1, hl2, hm1, _⟩ := hlen
  obtain ⟨L, hL⟩ : ∃ L, (bitLen m + 7) / 8 = L := ⟨_, rfl⟩
  rw [hL] at hl1 hl2
  have HLL := Lib.hid hl1
  have HL81 := Lib.hid hl2
  have HM1 := Lib.hid hm1
  obtain ⟨bl, hbl⟩ : ∃ bl, bitLen m = bl := ⟨_, rfl⟩
  have hbl1 : (1 : Int) ≤ (bl : Int) := by have := salt_low (v := m) (by omega); omega
  have hbl9 : (bl : Int) ≤ 700 := by omega
  have HBL := Lib.hid hbl
  obtain ⟨y, hy⟩ : ∃ y, (bl + 6) / 8 = y := ⟨_, rfl⟩
  have hyi : ((bl : Int) - 1 + 7) / 8 = (y : Int) := by omega
  have hyi2 : ((bl : Int) - 1 + 7).tdiv 8 = (y : Int) := by rw [Int.tdiv_eq_ediv_of_nonneg (by omega)]; exact hyi
  have hyl : (y : Int) ≤ 700 := by omega
  have HY := Lib.hid hy
  obtain ⟨n, hn⟩ : ∃ n, hszOf k s b = n := ⟨_, rfl⟩
  have hn32 : (n : Int) ≤ 32 := by
    have : n ≤ 32 := by rw [← hn]; unfold hszOf; split; omega; split <;> omega
    omega
  have HN := Lib.hid hn
  obtain ⟨w0, hw0⟩ : ∃ w0, w.alloc (.cells #[.int .i64 k, .int .i64 s, .int .i64 b] 38) = w0 := ⟨_, rfl⟩
  have hbh := Blk.new w 38 #[.int .i64 k, .int .i64 s, .int .i64 b]
  rw [hw0] at hbh
  have K0 : Hid (Kept NoBlk w w0) := Lib.hid (by rw [← hw0]; exact (Kept.refl _ w).alloc _)
  have HBH := Lib.hid hbh
  have HG := Lib.hid (hg.still K0.out)
  have SZ : Hid (∀ w', _) := Lib.hid (fun w' => specSize_any k s b w' hs)
  rw [hn] at SZ
  have HS := Lib.hid hs
  clear hl1 hl2 hm1 hL hbl hy hn hbh hg hm hs
  go_enter Tryd.func5, Tryd.ntmps5
  go_wp2_with fail
  refine (HMOD.out _).mono ?_
  rintro x w1 ⟨A1, c1, rfl, hat1, hc1, k1⟩
  rw [HLL.out] at hc1 ⊢
  have hb1 := HBH.out.kept k1 (fun e => e)
  have c0 : w1.cell? ⟨w.heap.size, 0, none⟩ = some (.int .i64 k) := hb1.cellIs rfl
  have cs : w1.cell? ⟨w.heap.size, 1, none⟩ = some (.int .i64 s) := hb1.cellIs rfl
  have cb : w1.cell? ⟨w.heap.size, 2, none⟩ = some (.int .i64 b) := hb1.cellIs rfl
  have hlt := hb1.lt
  have BT : Hid (∀ w', _) := Lib.hid (fun w' => bits_any w' A1 c1 (encT m))
  have HAT := Lib.hid hat1
  have HC1 := Lib.hid hc1
  have K1 := Lib.hid (K0.out.none k1)
  have KW1 := Lib.hid k1
  clear hat1 k1 HMOD hw0 hb1
  go_wp2_with fail
  go_region_held3 (fun w' => w'.cell? ⟨w.heap.size, 0, none⟩ = some (.int .i64 k) ∧ w'.cell? ⟨w.heap.size, 1, none⟩ = some (.int .i64 s) ∧ w'.cell? ⟨w.heap.size, 2, none⟩ = some (.int .i64 b)) (go_keep) (first
    | (go_at_call 19; have C1 := Lib.hid (by have h := BT.out w1.drew HAT.out (by rw [HLL.out]; exact HC1.out) (by rw [HLL.out]; have := HL81.out; omega); rw [HLL.out, num_encT, HBL.out] at h; exact h); refine C1.out.mono ?_; rintro x w2 ⟨rfl, k2'⟩; have k2 : Kept NoBlk w1 w2 := ((Kept.refl NoBlk w1).drew).trans k2'; have d0 : w2.cell? ⟨w.heap.size, 0, none⟩ = some (.int .i64 k) := (k2.cell (p := ⟨w.heap.size, 0, none⟩) hlt (fun e => e)).trans c0; have ds : w2.cell? ⟨w.heap.size, 1, none⟩ = some (.int .i64 s) := (k2.cell (p := ⟨w.heap.size, 1, none⟩) hlt (fun e => e)).trans cs; have db : w2.cell? ⟨w.heap.size, 2, none⟩ = some (.int .i64 b) := (k2.cell (p := ⟨w.heap.size, 2, none⟩) hlt (fun e => e)).trans cb)
    | (go_at_call 20; refine (SZ.out _).mono ?_; rintro x w3 ⟨rfl, k3⟩; have k13 := k2.none k3; have e0 : w3.cell? ⟨w.heap.size, 0, none⟩ = some (.int .i64 k) := (k13.cell (p := ⟨w.heap.size, 0, none⟩) hlt (fun e => e)).trans c0; have es : w3.cell? ⟨w.heap.size, 1, none⟩ = some (.int .i64 s) := (k13.cell (p := ⟨w.heap.size, 1, none⟩) hlt (fun e => e)).trans cs; have eb : w3.cell? ⟨w.heap.size, 2, none⟩ = some (.int .i64 b) := (k13.cell (p := ⟨w.heap.size, 2, none⟩) hlt (fun e => e)).trans cb))
  all_goals
    have i1 : IntKind.i64.wrap ((bl : Int) - 1) = (bl : Int) - 1 := IntWalk.i64_in _ (by omega)
    have i2 : IntKind.i64.wrap ((bl : Int) - 1 + 7) = (bl : Int) - 1 + 7 := IntWalk.i64_in _ (by omega)
    have i3 : IntKind.i64.wrap (y : Int) = (y : Int) := IntWalk.i64_in _ (by omega)
    have i4 : IntKind.i64.wrap ((y : Int) - (n : Int)) = (y : Int) - (n : Int) := IntWalk.i64_in _ (by omega)
    have i5 : IntKind.i64.wrap ((y : Int) - (n : Int) - 2) = (y : Int) - 2 - (n : Int) := by rw [IntWalk.i64_in _ (by omega)]; omega
    rw [i1, i2, hyi2, i3, i4, i5]
    have hms := mostSalt_any A1 c1 65537 (encT m) k s b ea w3 ((HAT.out.still k2).still k3) (by rw [HLL.out]; have := HL81.out; omega) (by rw [num_encT]; exact HM1.out) HS.out ((HG.out.still KW1.out).still k13)
    rw [HLL.out, num_encT, HBL.out, HY.out, HN.out] at hms
    have HMS := Lib.hid hms
    have K3 := Lib.hid (K1.out.none k13)
    obtain ⟨t, ht⟩ : ∃ t, (y : Int) - 2 - (n : Int) = t := ⟨_, rfl⟩
    rw [ht] at HMS ⊢
    clear hms k2 k2' k3 k13 d0 ds db i1 i2 i3 i4 i5 ht hyi hyi2 BT SZ C1
    go_wp2_with fail
    refine HMS.out.mono ?_
    rintro x w4 (⟨a1, rfl, k4⟩ | ⟨a1, rfl, k4⟩)
    · have K4 := Lib.hid (K3.out.none k4)
      clear k4 HMS
      go_wp2_with fail
      go_ret
      exact ⟨rfl, K4.out⟩
    · have K4 := Lib.hid (K3.out.none k4)
      have hnl : ¬ t < 0 := by omega
      clear k4 HMS
      go_wp2_with fail
      go_ret
      exact ⟨rfl, K4.out⟩

end Go.Proofs.YtmheoenieaemmaaDoor
