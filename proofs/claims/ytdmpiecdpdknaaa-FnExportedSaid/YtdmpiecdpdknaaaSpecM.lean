/-
  spec.modulo, Rest, Inverse.
-/
import Derived.Test.YtdmpiecdpdknaaaSpecK
namespace Go.Proofs.Ytdmpiecdpdknaaa
open Go.RowKit

theorem and_bit (x : Nat) (hx : x ≤ 255) : bits .and .u8 (x : Int) 1 = ((x % 2 : Nat) : Int) := by
  have h1 : (BitVec.ofInt 8 (x : Int)).toNat = x := by
    rw [BitVec.ofInt_natCast, BitVec.toNat_ofNat]; exact Nat.mod_eq_of_lt (by omega)
  have h2 : (BitVec.ofInt 8 ((1 : Nat) : Int)).toNat = 1 := by
    rw [BitVec.ofInt_natCast, BitVec.toNat_ofNat]
  show IntKind.u8.wrap ((BitVec.ofInt 8 (x : Int) &&& BitVec.ofInt 8 ((1 : Nat) : Int)).toNat : Int) = _
  rw [BitVec.toNat_and, h1, h2, IntKind.wrap_u8, Nat.and_one_is_mod]
  omega
theorem or_bit : ∀ a, a < 256 → a % 2 = 0 → ∀ x, x < 2 → bits .or .u8 ((a : Nat) : Int) ((x : Nat) : Int) = ((a + x : Nat) : Int) := by decide +kernel
theorem enc_last (L v : Nat) (hL : 0 < L) : (enc L v)[L - 1]? = some (UInt8.ofNat v) := by
  rw [enc_get L v (L - 1) (by omega), show L - 1 - (L - 1) = 0 by omega, Pb_zero, Nat.div_one]
theorem enc_or (L v x : Nat) (hL : 0 < L) (h2 : v % 2 = 0) (hx : x < 2) (hv : v < Pb L) : (enc L v).set (L - 1) (UInt8.ofNat (v % 256 + x)) = enc L (v + x) := by
  have h := num_set_at (enc_length L v) (enc_last L v hL) (UInt8.ofNat (v % 256 + x))
  rw [toNat_of, toNat_of, show L - 1 - (L - 1) = 0 by omega, Pb_zero, Nat.mul_one, Nat.mul_one, num_enc_of_lt hv] at h
  exact eq_enc (by rw [List.length_set, enc_length]) (by omega)

set_option maxHeartbeats 1600000 in
set_option maxRecDepth 20000 in
theorem modulo_any (w : World) (A A' : Option Addr) (c c' : Nat) (xs ms : List UInt8) (hx : BytesAt w A xs) (hm : BytesAt w A' ms) (hxl : xs.length ≤ 200000) (hml : ms.length ≤ 100000) (hmc : ms.length ≤ c') (h1 : 1 ≤ num ms) :
    Calls Try.prog 16 #[.slice A xs.length c, .slice A' ms.length c'] w (GaveB (encT (num xs % num ms)) w) := by
  obtain ⟨n, hn⟩ : ∃ n, ms.length = n := ⟨_, rfl⟩
  obtain ⟨L, hL⟩ : ∃ L, n + 1 = L := ⟨_, rfl⟩
  have hMn := num_lt ms
  have hPb : Pb L = 256 * Pb n := by rw [← hL, Pb_succ]
  have hmk := make_bytes w L (by omega)
  have hw := wide_any (w.alloc (.cells (zeroRow L) 5)) A' c' L ms (hm.alloc _) hmc (by omega) (by omega)
  obtain ⟨M, hM⟩ : ∃ M, num ms = M := ⟨_, rfl⟩
  rw [hn] at hw hMn hmc ⊢
  rw [hM] at hw hMn h1 ⊢
  have hL1 : (n : Int) + 1 = (L : Int) := by omega
  have hL2 : (L : Int) - 1 = (n : Int) := by omega
  have HX := Lib.hid hx
  have HW := Lib.hid hw
  have HP : Hid (M < Pb n ∧ Pb L = 256 * Pb n ∧ 1 ≤ M ∧ n + 1 = L) := Lib.hid ⟨hMn, hPb, h1, hL⟩
  have hLl : L ≤ 100001 := by omega
  clear hx hm hw hM hn hMn hPb h1 hL hmc hml
  go_enter Try.func16, Try.ntmps16
  go_wp2_with fail
  refine HW.out.mono ?_
  rintro e w1 ⟨gm, rfl, hgm, hbm, k1⟩
  rw [enc_length]
  have HB0 : Hid (Blk w1 w.heap.size 5 ((enc L 0).map B).toArray) := Lib.hid (by
    rw [enc_zero]
    exact (Blk.new w _ _).kept k1 (fun e => e))
  have HBM := Lib.hid hbm
  have K1 := Lib.hid (((Kept.refl NoBlk w).alloc _).none k1)
  clear hbm k1 hgm HW hmk
  go_wp2_with fail
  go_loopw [5, 20] (fun ov iv wr => ∃ (i g : Nat), i ≤ 8 * xs.length ∧ iv = .int .i64 (i : Int) ∧ ov = .slice (some ⟨g, 0, none⟩) L L ∧ Blk wr g 5 ((enc L (num xs / 2 ^ (8 * xs.length - i) % M)).map B).toArray ∧ Kept NoBlk w1 wr) (fun _ iv _ => 8 * xs.length - (intOf iv).toNat)
  case atStart => exact ⟨0, w.heap.size, Nat.zero_le _, rfl, rfl, by
    rw [Nat.sub_zero, ← Pb_two, Nat.div_eq_of_lt (num_lt xs), Nat.zero_mod]
    exact HB0.out, Kept.refl _ _⟩
  case round =>
    obtain ⟨i, g, hi, rfl, rfl, hb, hk⟩ := hrel
    obtain ⟨v, hv⟩ : ∃ v, num xs / 2 ^ (8 * xs.length - i) = v := ⟨_, rfl⟩
    rw [hv] at hb
    have HK := Lib.hid hk
    rcases Nat.lt_or_ge i (8 * xs.length) with hlt | hge
    · obtain ⟨z, hz⟩ : ∃ z, xs[i / 8]? = some z := ⟨_, List.getElem?_eq_getElem (by omega)⟩
      have hbit := bit_at xs i hlt z hz
      rw [hv] at hbit
      obtain ⟨b, off, rfl, hbl, hcell⟩ := (HX.out.still (K1.out.none hk)).at_ (k := 0) (by omega)
      have cz0 : wr.cell? ⟨b, off + i / 8, none⟩ = some (.int .u8 (z.toNat : Int)) := hcell _ z hz
      have bz := byte_le z
      obtain ⟨r, hr⟩ : ∃ r, v % M = r := ⟨_, rfl⟩
      have hrM : r < M := by rw [← hr]; exact Nat.mod_lt _ (by have := HP.out; omega)
      rw [hr] at hb
      have hrL : r + r < Pb L := by have := HP.out; omega
      have hnr : num (enc L r) = r := num_enc_of_lt (by omega)
      have HA := plus_any wr (some ⟨g, 0, none⟩) (some ⟨g, 0, none⟩) L L L _ _ hb.bytes hb.bytes (enc_length _ _) (enc_length _ _) (by omega)
      rw [hnr] at HA
      unfold PlusB at HA
      rw [Nat.div_eq_of_lt hrL] at HA
      have HAD := Lib.hid HA
      obtain ⟨s, hs⟩ : ∃ s, r + r = s := ⟨_, rfl⟩
      rw [hs] at HAD
      obtain ⟨x, hx⟩ : ∃ x, z.toNat / 2 ^ (7 - i % 8) = x := ⟨_, rfl⟩
      have hxl2 : x ≤ 255 := by rw [← hx]; exact Nat.le_trans (Nat.div_le_self _ _) bz
      rw [hx] at hbit
      have hsh : (z.toNat : Int) / 2 ^ (7 - i % 8) = (x : Int) := by
        rw [← hx]; simp
      have e7 : (7 : Int) - ((i : Int) % 8) = ((7 - i % 8 : Nat) : Int) := by omega
      have hand := and_bit x hxl2
      obtain ⟨y, hy⟩ : ∃ y, x % 2 = y := ⟨_, rfl⟩
      rw [hy] at hand hbit
      have hy2 : y < 2 := by omega
      obtain ⟨t, ht⟩ : ∃ t, s % 256 = t := ⟨_, rfl⟩
      have hor := or_bit t (by omega) (by omega) y hy2
      obtain ⟨u, hu⟩ : ∃ u, t + y = u := ⟨_, rfl⟩
      rw [hu] at hor
      obtain ⟨V, hV⟩ : ∃ V, s + y = V := ⟨_, rfl⟩
      have hVL : V < Pb L := by have := HP.out; omega
      have hset : (enc L s).set n (UInt8.ofNat u) = enc L V := by
        have h := enc_or L s y (by have := HP.out; omega) (by omega) hy2 (by omega)
        rw [ht, hu, hV, show L - 1 = n by have := HP.out; omega] at h
        exact h
      have hul : u < 256 := by omega
      have hstep : num xs / 2 ^ (8 * xs.length - (i + 1)) % M = if V < M then V else V - M := by
        rw [hbit, modulo_step _ _ _ hy2 (by have := HP.out; omega), hr, show 2 * r + y = V by omega]
      have hlast : (enc L s)[n]? = some (UInt8.ofNat t) := by
        have h := enc_last L s (by have := HP.out; omega)
        rw [show L - 1 = n by have := HP.out; omega] at h
        rw [h, ← ht]
        congr 1
        exact UInt8.toNat_inj.1 (by rw [toNat_of, toNat_of, Nat.mod_mod])
      have htl : ((UInt8.ofNat t).toNat : Int) = (t : Int) := by rw [toNat_of]; omega
      have hV2 : V < 2 * M := by omega
      have HST := Lib.hid hstep
      have HSET := Lib.hid hset
      have HLAST := Lib.hid hlast
      have HTL := Lib.hid htl
      have HUL := Lib.hid hul
      have HVL := Lib.hid hVL
      have HV2 := Lib.hid hV2
      clear hk hb hv hz hbit hcell HA hnr hx hr hrM hrL hs hy ht hu hV hVL hset hstep hlast htl hul hV2 hy2
      go_wp2_with fail
      refine HAD.out.mono ?_
      rintro e w2 ⟨g1, rfl, hg1, hb1, k1⟩
      have cz : w2.cell? ⟨b, off + i / 8, none⟩ = some (.int .u8 (z.toNat : Int)) := (k1.cell (p := ⟨b, off + i / 8, none⟩) hbl (fun e => e)).trans cz0
      have co : w2.cell? ⟨g1, n, none⟩ = some (.int .u8 (t : Int)) := hb1.cellIs (by rw [List.getElem?_toArray, List.getElem?_map, HLAST.out]; show some (Value.int .u8 _) = _; rw [HTL.out])
      have cf : w2.frozen? ⟨g1, n, none⟩ = false := hb1.frozen n
      have HB1 := Lib.hid hb1
      have HK1 := Lib.hid (HK.out.none k1)
      have HG1 := Lib.hid (Nat.le_trans HK.out.size hg1)
      have hnL : (n : Int) < (L : Int) := by omega
      clear hb1 k1 cz0 HAD hg1
      have hb2 : Blk ((w2.setCell ⟨g1, n, none⟩ (.int .u8 (u : Int))).drew) g1 5 ((enc L V).map B).toArray := by
        have h := HB1.out.set_ n (.int .u8 (u : Int))
        rw [List.setIfInBounds_toArray] at h
        rw [← HSET.out, List.map_set]
        rw [show B (UInt8.ofNat u) = .int .u8 (u : Int) by unfold B; rw [toNat_of, Nat.mod_eq_of_lt HUL.out]]
        exact h
      have k2 : Kept NoBlk w1 ((w2.setCell ⟨g1, n, none⟩ (.int .u8 (u : Int))).drew) := (HK1.out.setNew HG1.out _ _).drew
      have HB2 := Lib.hid hb2
      have HK2 := Lib.hid k2
      clear hb2 k2 HB1 HK1 HG1
      have hle := less_any ((w2.setCell ⟨g1, n, none⟩ (.int .u8 (u : Int))).drew) (some ⟨g1, 0, none⟩) (some ⟨gm, 0, none⟩) L L (enc L V) (enc L M) HB2.out.bytes (HBM.out.kept HK2.out (fun e => e)).bytes (by rw [enc_length]; exact Nat.le_refl _) (by rw [enc_length]; exact Nat.le_refl _) (by rw [enc_length]; omega) (by rw [enc_length]; omega)
      rw [enc_length, enc_length, num_enc_of_lt HVL.out, num_enc_of_lt (show M < Pb L by have := HP.out; omega)] at hle
      by_cases hVM : V < M
      · rw [decide_eq_true hVM] at hle
        have HLE := Lib.hid hle
        have HST2 := Lib.hid (HST.out.trans (if_pos hVM))
        clear hle hVM
        go_wp2_with fail
        go_region
        all_goals go_wp2_with fail
        all_goals
          refine HLE.out.mono ?_
          rintro e w3 ⟨rfl, k3⟩
          have HB3 := Lib.hid (HB2.out.kept k3 (fun e => e))
          have HK3 := Lib.hid (HK2.out.none k3)
          clear k3 HLE HB2 HK2
          go_wp2_with fail
          go_roundw
          case rel => exact ⟨i + 1, g1, by omega, by go_num, rfl, by rw [HST2.out]; exact HB3.out, HK3.out⟩
          case measure => first | (simp [intOf]; done) | (simp [intOf]; omega)
      · rw [decide_eq_false hVM] at hle
        have HLE := Lib.hid hle
        have HST2 := Lib.hid (HST.out.trans (if_neg hVM))
        have HVM := Lib.hid hVM
        clear hle hVM
        go_wp2_with fail
        go_region
        all_goals go_wp2_with fail
        all_goals
          refine HLE.out.mono ?_
          rintro e w3 ⟨rfl, k3⟩
          have hmi := minus_any w3 (some ⟨g1, 0, none⟩) (some ⟨gm, 0, none⟩) L L L (enc L V) (enc L M) (HB2.out.kept k3 (fun e => e)).bytes (HBM.out.kept (HK2.out.none k3) (fun e => e)).bytes (enc_length _ _) (enc_length _ _) (by omega)
          rw [num_enc_of_lt HVL.out, num_enc_of_lt (show M < Pb L by have := HP.out; omega), show (((V : Int) - (M : Int)) % (Pb L : Nat)).toNat = V - M by have := HVM.out; have := HVL.out; rw [Int.emod_eq_of_lt (by omega) (by omega)]; omega] at hmi
          have HMI := Lib.hid hmi
          have HK3 := Lib.hid (HK2.out.none k3)
          clear k3 hmi HLE HB2 HK2
          go_wp2_with fail
          refine HMI.out.mono ?_
          rintro e w4 ⟨g4, rfl, hg4, hb4, k4⟩
          rw [enc_length]
          have HB4 := Lib.hid hb4
          have HK4 := Lib.hid (HK3.out.none k4)
          clear hb4 k4 hg4 HMI HK3
          go_wp2_with fail
          go_roundw
          case rel => exact ⟨i + 1, g4, by omega, by go_num, rfl, by rw [HST2.out]; exact HB4.out, HK4.out⟩
          case measure => first | (simp [intOf]; done) | (simp [intOf]; omega)
    · obtain rfl : i = 8 * xs.length := by omega
      rw [Nat.sub_self, Nat.pow_zero, Nat.div_one] at hv
      subst hv
      have hlt : num xs % M < Pb L := by have h := Nat.mod_lt (num xs) (show 0 < M by have := HP.out; omega); have := HP.out; omega
      have htr := trimmed_any wr (some ⟨g, 0, none⟩) L (enc L (num xs % M)) hb.bytes (by rw [enc_length]; exact Nat.le_refl _) (by rw [enc_length]; omega)
      rw [enc_length, trim_eq_encT, num_enc_of_lt hlt] at htr
      have HT := Lib.hid htr
      clear htr hb hk hlt
      go_wp2_with fail
      refine HT.out.mono ?_
      rintro e w2 ⟨A2, c2, rfl, hat, hc2, hk⟩
      have FIN : Hid (GaveB (encT (num xs % M)) w (.returned (.slice A2 (encT (num xs % M)).length c2)) w2) := Lib.hid ⟨A2, c2, rfl, hat, hc2, (K1.out.none HK.out).none hk⟩
      clear hat hk HT
      go_wp2_with fail
      go_ret
      exact FIN.out

set_option maxHeartbeats 1600000 in
theorem restIs_any (w : World) (A A' A'' : Option Addr) (c c' c'' : Nat) (ds ps gs : List UInt8) (hd : BytesAt w A ds) (hp : BytesAt w A' ps) (hg : BytesAt w A'' gs) (hdl : ds.length ≤ 100000) (hpl : ps.length ≤ 100000) (hgl : gs.length ≤ 100000) (hgc : gs.length ≤ c'') (h2 : 2 ≤ num ps) (hval : num gs = num ds % (num ps - 1)) :
    Calls Try.prog 8 #[.slice A ds.length c, .slice A' ps.length c', .slice A'' gs.length c''] w fun e w' => e = .returned (.bool true) ∧ Kept NoBlk w w' := by
  obtain ⟨T, hT⟩ : ∃ T, encT (num gs) = T := ⟨_, rfl⟩
  have hpn : num (enc ps.length (num ps - 1)) = num ps - 1 := num_enc_of_lt (by have := num_lt ps; omega)
  have C1 : Hid (∀ w', Kept NoBlk w w' → Calls Try.prog 7 #[.slice A'' gs.length c''] w' (GaveB T w')) := Lib.hid (fun w' k => by
    have h := trimmed_any w' A'' c'' gs (hg.still k) hgc (by omega)
    rw [trim_eq_encT, hT] at h
    exact h)
  have C2 : Hid (∀ w', Kept NoBlk w w' → Calls Try.prog 17 #[.slice A' ps.length c'] w' (MadeB (enc ps.length (num ps - 1)) w')) := Lib.hid (fun w' k => less1_any w' A' c' ps (hp.still k) hpl (by omega))
  have C3 : Hid (∀ w' B n, Kept NoBlk w w' → BytesAt w' B (enc ps.length (num ps - 1)) → n = ps.length → Calls Try.prog 16 #[.slice A ds.length c, .slice B n n] w' (GaveB T w')) := Lib.hid (fun w' B n k hb hn => by
    have h := modulo_any w' A B c n ds (enc ps.length (num ps - 1)) (hd.still k) hb (by omega) (by rw [enc_length]; exact hpl) (by rw [enc_length, hn]; exact Nat.le_refl _) (by rw [hpn]; omega)
    rw [enc_length, hpn, ← hval, hT, ← hn] at h
    exact h)
  clear hd hp hg hdl hpl hgl hgc h2 hval hT hpn
  go_enter Try.func8, Try.ntmps8
  go_wp2_with fail
  go_region_with (first | (go_at_call 7; refine (C1.out _ ((Kept.refl NoBlk w).drew)).mono ?_; rintro e w1 ⟨A1, c1, rfl, hat1, hc1, k1'⟩; have k1 : Kept NoBlk w w1 := ((Kept.refl NoBlk w).drew).trans k1'; have h9a := conv_bytes w1 A1 c1 T hat1) | (go_at_call 17; refine (C2.out w1 k1).mono ?_; rintro e w2 ⟨g2, rfl, hg2, hb2, k2'⟩; have k2 : Kept NoBlk w w2 := k1.none k2'; have hat2 := BytesAt.still hat1 k2'; have h9b := conv_bytes w2 A1 c1 T hat2) | (go_at_call 16; refine (C3.out w2 _ _ k2 hb2.bytes (enc_length _ _)).mono ?_; rintro e w3 ⟨A3, c3, rfl, hat3, hc3, k3'⟩; have k3 : Kept NoBlk w w3 := k2.none k3'; have h9c := conv_bytes w3 A1 c1 T (BytesAt.still hat2 k3'); have h14 := conv_bytes w3 A3 c3 T hat3))
  all_goals
    go_wp2_with fail
    go_ret
    exact ⟨rfl, k3⟩

/-- A row of the one byte 1, read as a string in later worlds. -/
theorem conv_one (w0 w' : World) (k : Kept NoBlk (w0.alloc (.cells #[.int .u8 1] 5)) w') : (convert 22 9 (.slice (some ⟨w0.heap.size, 0, none⟩) 1 1)).run Try.prog w' = .ok (.string ⟨[(1 : UInt8)].toArray⟩) w' := by
  have h : BytesAt (w0.alloc (.cells #[.int .u8 1] 5)) (some ⟨w0.heap.size, 0, none⟩) [1] := bytesAt_new w0 5 [1] _ rfl
  exact conv_bytes w' (some ⟨w0.heap.size, 0, none⟩) 1 [1] (h.still k)

end Go.Proofs.Ytdmpiecdpdknaaa
