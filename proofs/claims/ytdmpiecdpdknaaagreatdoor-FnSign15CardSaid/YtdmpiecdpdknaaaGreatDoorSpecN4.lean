/-
  spec.product, over, small, Mersenne, Pair, Modulus.
-/
import Derived.Test.YtdmpiecdpdknaaaGreatDoorGh
import Derived.Test.YtdmpiecdpdknaaaGreatDoorKeys
import Derived.Deep.RegionHeld3
namespace Go.Proofs.YtdmpiecdpdknaaaGreatDoor
open Go.RowKit

/-- A row of bytes that is written. -/
def SomeRow (g : Nat) (o : List UInt8) (w0 wr : World) : Prop := Blk wr g 5 (o.map B).toArray ∧ Kept NoBlk w0 wr
theorem SomeRow.drewN {g : Nat} {o : List UInt8} {w0 wr : World} (h : SomeRow g o w0 wr) (k : Nat) : SomeRow g o w0 (wr.drewN k) := ⟨h.1, h.2.drewN k⟩
theorem SomeRow.put {g i : Nat} {o : List UInt8} {w0 wr w' : World} {c : Int} {x : UInt8} (h : SomeRow g o w0 wr) (hg : w0.heap.size ≤ g) (hc : c = (x.toNat : Int)) (hw : w' = wr.setCell ⟨g, i, none⟩ (.int .u8 c)) : SomeRow g (o.set i x) w0 w' := by
  subst hw hc
  refine ⟨?_, h.2.setNew hg _ _⟩
  have := h.1.set_ i (.int .u8 (x.toNat : Int))
  rw [List.setIfInBounds_toArray] at this
  rw [List.map_set]; exact this

theorem product_any (w : World) (A A' : Option Addr) (c c' : Nat) (xs ys : List UInt8) (hx : BytesAt w A xs) (hy : BytesAt w A' ys) (hxl : xs.length ≤ 100000) (hyl : ys.length ≤ 100000) :
    Calls Tryz.prog 26 #[.slice A xs.length c, .slice A' ys.length c'] w (GaveB (encT (num xs * num ys)) w) := by
  obtain ⟨N, hN⟩ : ∃ N, xs.length + ys.length = N := ⟨_, rfl⟩
  have hmk := make_bytes w N (by omega)
  have hNi : (xs.length : Int) + (ys.length : Int) = (N : Int) := by omega
  have HX := Lib.hid hx
  have HY := Lib.hid hy
  have HN := Lib.hid hN
  clear hx hy hN
  go_enter Tryz.func26, Tryz.ntmps26
  go_wp2_with fail
  clear hmk
  go_loopw [6] (fun iv wr => ∃ (t : Nat) (o : List UInt8), t ≤ xs.length ∧ iv = .int .i64 ((xs.length : Int) - t - 1) ∧ o.length = N ∧ (∀ j, j < xs.length - t → o[j]? = some 0) ∧ num o = num (xs.drop (xs.length - t)) * num ys ∧ SomeRow w.heap.size o w wr) (fun iv _ => (intOf iv + 1).toNat)
  case atStart => exact ⟨0, List.replicate N 0, Nat.zero_le _, by go_num, List.length_replicate, fun j h => zeros_at j (by have := HN.out; omega), by
    rw [num_zeros, Nat.sub_zero, num_drop_all, Nat.zero_mul], Blk.new w _ _, (Kept.refl _ w).alloc _⟩
  case round =>
    obtain ⟨wo, hwo⟩ : ∃ wo, wo = wr := ⟨_, rfl⟩
    subst hwo
    obtain ⟨t, o, ht, hiv, hol, h0, hval, hrow⟩ := hrel
    rcases Nat.lt_or_ge t xs.length with hlt | hge
    · obtain ⟨i, hi⟩ : ∃ i, xs.length - 1 - t = i := ⟨_, rfl⟩
      have hin : (xs.length : Int) - t - 1 = (i : Int) := by omega
      rw [hin] at hiv
      subst hiv
      obtain ⟨x, hxi⟩ : ∃ x, xs[i]? = some x := ⟨_, List.getElem?_eq_getElem (by omega)⟩
      obtain ⟨V, hV⟩ : ∃ V, num o = V := ⟨_, rfl⟩
      obtain ⟨b, off, rfl, hb, hcell⟩ := HX.out.at_ (k := 0) (by omega)
      have cx0 : w.cell? ⟨b, off + i, none⟩ = some (.int .u8 (x.toNat : Int)) := hcell _ x hxi
      have bx := byte_le x
      have hdr := num_drop_at rfl hxi
      rw [show i + 1 = xs.length - t by omega, show xs.length - 1 - i = t by omega] at hdr
      have HDR := Lib.hid hdr
      have HV := Lib.hid hV
      have HVAL := Lib.hid (hV.symm.trans hval)
      have H0 := Lib.hid h0
      have HOL := Lib.hid hol
      have HROW := Lib.hid hrow
      have hi1 : (i : Int) < (xs.length : Int) := by omega
      have HI := Lib.hid hi
      have HIN := Lib.hid hin
      clear hxi hcell hdr hV hval h0 hol hrow hi hin
      go_wp2_with fail
      go_loopw [7, 8] (fun cv kv wr => ∃ (s k : Nat) (o' : List UInt8), s ≤ ys.length ∧ k ≤ 255 ∧ cv = .int .i64 (k : Int) ∧ kv = .int .i64 ((ys.length : Int) - s - 1) ∧ o'.length = N ∧ (∀ j, j < xs.length - t → o'[j]? = some 0) ∧ num o' + k * Pb (t + s) = V + x.toNat * num (ys.drop (ys.length - s)) * Pb t ∧ SomeRow w.heap.size o' w wr) (fun _ kv _ => (intOf kv + 1).toNat)
      case atStart => exact ⟨0, 0, o, Nat.zero_le _, by omega, rfl, by go_num, HOL.out, H0.out, by
        rw [Nat.sub_zero, num_drop_all, Nat.zero_mul, Nat.mul_zero, Nat.zero_mul, HV.out], HROW.out⟩
      case round =>
        obtain ⟨s, k, o', hs, hk, rfl, hkv, hol', h0', hval', hrow'⟩ := hrel
        rcases Nat.lt_or_ge s ys.length with hslt | hsge
        · obtain ⟨q, hq⟩ : ∃ q, ys.length - 1 - s = q := ⟨_, rfl⟩
          have hqn : (ys.length : Int) - s - 1 = (q : Int) := by omega
          rw [hqn] at hkv
          subst hkv
          obtain ⟨y, hyi⟩ : ∃ y, ys[q]? = some y := ⟨_, List.getElem?_eq_getElem (by omega)⟩
          obtain ⟨P, hP⟩ : ∃ P, i + q + 1 = P := ⟨_, rfl⟩
          have hPN : P < N := by have := HN.out; have := HI.out; omega
          obtain ⟨z, hzi⟩ : ∃ z, o'[P]? = some z := ⟨_, List.getElem?_eq_getElem (by omega)⟩
          obtain ⟨b', off', rfl, hb', hcell'⟩ := (HY.out.still hrow'.2).at_ (k := 0) (by omega)
          have cy : wr.cell? ⟨b', off' + q, none⟩ = some (.int .u8 (y.toNat : Int)) := hcell' _ y hyi
          have cz : wr.cell? ⟨w.heap.size, P, none⟩ = some (.int .u8 (z.toNat : Int)) := hrow'.1.cellIs (by rw [List.getElem?_toArray, List.getElem?_map, hzi]; rfl)
          have cf : wr.frozen? ⟨w.heap.size, P, none⟩ = false := hrow'.1.frozen P
          have cx : wr.cell? ⟨b, off + i, none⟩ = some (.int .u8 (x.toNat : Int)) := (hrow'.2.cell (p := ⟨b, off + i, none⟩) hb (fun e => e)).trans cx0
          have bz := byte_le z
          have by_ := byte_le y
          obtain ⟨m0, hm0⟩ : ∃ m0, x.toNat * y.toNat = m0 := ⟨_, rfl⟩
          have hm0l : m0 ≤ 65025 := by rw [← hm0]; exact Nat.mul_le_mul bx by_
          have hm0i : (x.toNat : Int) * (y.toNat : Int) = (m0 : Int) := by rw [← hm0]; simp
          obtain ⟨m, hm⟩ : ∃ m, k + (z.toNat + m0) = m := ⟨_, rfl⟩
          have hmi : (k : Int) + ((z.toNat : Int) + (m0 : Int)) = (m : Int) := by omega
          have hml : m ≤ 65535 := by omega
          have hst := prod_step o' N P k (t + s) _ m0 z hol' hzi (by have := HN.out; have := HI.out; omega) hval'
          rw [hm] at hst
          have hdy := num_drop_at rfl hyi
          rw [show q + 1 = ys.length - s by omega, show ys.length - 1 - q = s by omega] at hdy
          have hst2 : num (o'.set P (UInt8.ofNat m)) + m / 256 * Pb (t + (s + 1)) = V + x.toNat * num (ys.drop (ys.length - (s + 1))) * Pb t := by
            rw [show t + (s + 1) = t + s + 1 by omega, hst, show ys.length - (s + 1) = q by omega, hdy, Nat.mul_add, ← Nat.mul_assoc x.toNat y.toNat, hm0, Nat.add_mul, Pb_add, Nat.mul_comm (Pb t) (Pb s), ← Nat.mul_assoc m0]
            omega
          have hP1 : (i : Int) + (q : Int) + 1 = (P : Int) := by omega
          have hPN1 : (P : Int) < (N : Int) := by omega
          have hq1 : (q : Int) < (ys.length : Int) := by omega
          have HST := Lib.hid hst2
          have HROW' := Lib.hid hrow'
          have HOL' := Lib.hid hol'
          have H0' := Lib.hid h0'
          have HQ := Lib.hid hq
          have HQN := Lib.hid hqn
          have HP := Lib.hid hP
          clear hrow' hol' h0' hst hst2 hdy hval' hyi hzi hcell' hq hqn hP hm0 hm
          go_wp2_with fail
          go_quiet (fail)
          go_wp2_with fail
          go_roundw
          case rel =>
            refine ⟨s + 1, m / 256, o'.set P (UInt8.ofNat m), by omega, by omega, by rfl, ?_, by rw [List.length_set]; exact HOL'.out, fun j hj => ?_, HST.out, (HROW'.out.drewN nq).put (Nat.le_refl _) (c := (m : Int) % 256) (by rw [toNat_of]; rfl) rfl⟩
            · rw [← HQN.out, show (ys.length : Int) - s - 1 - 1 = (ys.length : Int) - (s + 1 : Nat) - 1 by omega]
            · rw [List.getElem?_set_ne (by have := HP.out; have := HI.out; omega)]
              exact H0'.out j hj
          case measure => first | (simp [intOf]; done) | (simp [intOf]; omega)
        · obtain rfl : s = ys.length := by omega
          subst hkv
          have hneg : ¬ (0 : Int) ≤ (ys.length : Int) - ys.length - 1 := by omega
          have cf : wr.frozen? ⟨w.heap.size, i, none⟩ = false := hrow'.1.frozen i
          have h0i := h0' i (by have := HI.out; omega)
          have ci : wr.cell? ⟨w.heap.size, i, none⟩ = some (.int .u8 0) := hrow'.1.cellIs (by rw [List.getElem?_toArray, List.getElem?_map, h0i]; rfl)
          have hset := num_set_at hol' h0i (UInt8.ofNat k)
          rw [toNat_of, show (0 : UInt8).toNat = 0 from rfl, Nat.zero_mul, Nat.add_zero, Nat.mod_eq_of_lt (by omega), show N - 1 - i = t + ys.length by have := HN.out; have := HI.out; omega, hval', Nat.sub_self, List.drop_zero, HVAL.out] at hset
          have hset2 : num (o'.set i (UInt8.ofNat k)) = num (xs.drop i) * num ys := by
            rw [hset, HDR.out, Nat.add_mul, Nat.mul_assoc, Nat.mul_comm (num ys) (Pb t), ← Nat.mul_assoc]
            omega
          have hiN : (i : Int) < (N : Int) := by have := HN.out; omega
          have HSET := Lib.hid hset2
          have HROW' := Lib.hid hrow'
          have HOL' := Lib.hid hol'
          have H0' := Lib.hid h0'
          have hku : (k : Int) % 256 = (k : Int) := by omega
          clear hset hset2 hrow' hol' h0' hval' h0i
          go_wp2_with fail
          go_roundw
          case rel =>
            refine ⟨t + 1, o'.set i (UInt8.ofNat k), by omega, ?_, by rw [List.length_set]; exact HOL'.out, fun j hj => ?_, ?_, HROW'.out.put (Nat.le_refl _) (c := (k : Int)) (by rw [toNat_of]; omega) (by first | rfl | rw [hku])⟩
            · rw [← HIN.out, show (xs.length : Int) - t - 1 - 1 = (xs.length : Int) - (t + 1 : Nat) - 1 by omega]
            · rw [List.getElem?_set_ne (by have := HI.out; omega)]
              exact H0'.out j (by omega)
            · rw [show xs.length - (t + 1) = i by have := HI.out; omega]; exact HSET.out
          case measure => first | (simp [intOf]; done) | (simp [intOf]; omega)
    · obtain rfl : t = xs.length := by omega
      subst hiv
      rw [Nat.sub_self, List.drop_zero] at hval
      have hneg : ¬ (0 : Int) ≤ (xs.length : Int) - xs.length - 1 := by omega
      have htr := trimmed_any wo (some ⟨w.heap.size, 0, none⟩) N o hrow.1.bytes (by omega) (by have := HN.out; omega)
      rw [hol, trim_eq_encT, hval] at htr
      have HTR := Lib.hid htr
      have HK := Lib.hid hrow.2
      clear htr hrow hval hol h0
      go_wp2_with fail
      refine HTR.out.mono ?_
      rintro e w1 ⟨A1, c1, rfl, hat1, hc1, hk1⟩
      have hfin : GaveB (encT (num xs * num ys)) w (.returned (.slice A1 (encT (num xs * num ys)).length c1)) w1 := ⟨A1, c1, rfl, hat1, hc1, HK.out.none hk1⟩
      have FIN := Lib.hid hfin
      clear hfin hat1 hk1 HTR
      go_wp2_with fail
      go_ret
      exact FIN.out

/-- The five exponents. -/
def IsE (n : Nat) : Prop := n = 61 ∨ n = 89 ∨ n = 107 ∨ n = 127 ∨ n = 521
theorem mers_e : mers 61 = 31 :: List.replicate 7 255 ∧ mers 89 = 1 :: List.replicate 11 255 ∧ mers 107 = 7 :: List.replicate 13 255 ∧ mers 127 = 127 :: List.replicate 15 255 ∧ mers 521 = 1 :: List.replicate 65 255 := by decide

theorem mers_any (n : Nat) (hn : IsE n) (w : World) :
    Calls Tryz.prog 25 #[.int .i64 (n : Int)] w (GaveB (mers n) w) := by
  obtain ⟨m61, m89, m107, m127, m521⟩ := mers_e
  have hown0 : (w.alloc (.cells #[] 5)).ownsRow w.heap.size 5 1 (.slice (some ⟨w.heap.size, 0, none⟩) 0 0) 0 [] := own_row w [] (by decide)
  rcases hn with rfl | rfl | rfl | rfl | rfl
  · rw [m61]
    clear m61 m89 m107 m127 m521
    go_enter Tryz.func25, Tryz.ntmps25
    go_wp2_with (at_builtin; refine wpList_append_bytes _ rfl _ _ rfl w.heap.size _ [] rfl (own_still hown0 ((Kept.refl NoBlk _).alloc _)) _ 1 _ [31] rfl rfl (bytesAt_new _ 5 [31] _ (by simp)) (by simp) (by simp; omega) ?_; intro v' w1 hown1 hgrow)
    have hk1 : Kept NoBlk w w1 := (((Kept.refl _ w).alloc _).alloc _).grow (own_still hown0 ((Kept.refl NoBlk _).alloc _)) (Nat.le_refl _) hgrow
    have HO1 : Hid (w1.ownsRow w.heap.size 5 1 v' ((31 : UInt8) :: List.replicate 0 255).length ((31 :: List.replicate 0 255).map B)) := Lib.hid hown1
    have HK1 := Lib.hid hk1
    clear hown1 hgrow hk1
    go_loopw [3, 17] (fun v iv wr => ∃ j : Nat, j ≤ 7 ∧ iv = .int .i64 (j : Int) ∧ wr.ownsRow w.heap.size 5 1 v ((31 : UInt8) :: List.replicate j 255).length ((31 :: List.replicate j 255).map B) ∧ Kept NoBlk w wr) (fun _ iv _ => 7 - (intOf iv).toNat)
    case atStart => exact ⟨0, Nat.zero_le _, rfl, HO1.out, HK1.out⟩
    case round =>
      obtain ⟨j, hj, rfl, ho, hk⟩ := hrel
      have HO := Lib.hid ho
      have HK := Lib.hid hk
      clear hk
      rcases Nat.lt_or_ge j 7 with hlt | hge
      · have hs : ((31 : UInt8) :: List.replicate j 255) ++ [255] = 31 :: List.replicate (j + 1) 255 := by rw [List.replicate_succ']; simp
        have HS := Lib.hid hs
        clear hs ho
        go_wp2_with (at_builtin; refine wpList_append_bytes _ rfl _ _ rfl w.heap.size _ ((31 : UInt8) :: List.replicate j 255) rfl (own_still HO.out ((Kept.refl NoBlk _).alloc _)) _ 1 _ [255] rfl rfl (bytesAt_new _ 5 [255] _ (by simp)) (by simp; omega) (by have := HK.out.size; simp; omega) ?_; intro v2 w2 hown2 hgrow)
        go_roundw
        case rel => exact ⟨j + 1, by omega, by go_num, by rw [HS.out] at hown2; exact hown2, (HK.out.alloc _).grow (own_still HO.out ((Kept.refl NoBlk _).alloc _)) (Nat.le_refl _) hgrow⟩
        case measure => first | (simp [intOf]; done) | (simp [intOf]; omega)
      · obtain rfl : j = 7 := by omega
        obtain ⟨A1, c1, rfl, h1, _, hat1, _⟩ := own_form ho
        have hfin : GaveB ((31 : UInt8) :: List.replicate 7 255) w (.returned (.slice A1 ((31 : UInt8) :: List.replicate 7 255).length c1)) wr := ⟨A1, c1, rfl, hat1, h1, HK.out⟩
        have FIN := Lib.hid hfin
        clear hfin ho hat1
        go_wp2_with fail
        go_ret
        exact FIN.out
  · rw [m89]
    clear m61 m89 m107 m127 m521
    go_enter Tryz.func25, Tryz.ntmps25
    go_wp2_with (at_builtin; refine wpList_append_bytes _ rfl _ _ rfl w.heap.size _ [] rfl (own_still hown0 ((Kept.refl NoBlk _).alloc _)) _ 1 _ [1] rfl rfl (bytesAt_new _ 5 [1] _ (by simp)) (by simp) (by simp; omega) ?_; intro v' w1 hown1 hgrow)
    have hk1 : Kept NoBlk w w1 := (((Kept.refl _ w).alloc _).alloc _).grow (own_still hown0 ((Kept.refl NoBlk _).alloc _)) (Nat.le_refl _) hgrow
    have HO1 : Hid (w1.ownsRow w.heap.size 5 1 v' ((1 : UInt8) :: List.replicate 0 255).length ((1 :: List.replicate 0 255).map B)) := Lib.hid hown1
    have HK1 := Lib.hid hk1
    clear hown1 hgrow hk1
    go_loopw [3, 17] (fun v iv wr => ∃ j : Nat, j ≤ 11 ∧ iv = .int .i64 (j : Int) ∧ wr.ownsRow w.heap.size 5 1 v ((1 : UInt8) :: List.replicate j 255).length ((1 :: List.replicate j 255).map B) ∧ Kept NoBlk w wr) (fun _ iv _ => 11 - (intOf iv).toNat)
    case atStart => exact ⟨0, Nat.zero_le _, rfl, HO1.out, HK1.out⟩
    case round =>
      obtain ⟨j, hj, rfl, ho, hk⟩ := hrel
      have HO := Lib.hid ho
      have HK := Lib.hid hk
      clear hk
      rcases Nat.lt_or_ge j 11 with hlt | hge
      · have hs : ((1 : UInt8) :: List.replicate j 255) ++ [255] = 1 :: List.replicate (j + 1) 255 := by rw [List.replicate_succ']; simp
        have HS := Lib.hid hs
        clear hs ho
        go_wp2_with (at_builtin; refine wpList_append_bytes _ rfl _ _ rfl w.heap.size _ ((1 : UInt8) :: List.replicate j 255) rfl (own_still HO.out ((Kept.refl NoBlk _).alloc _)) _ 1 _ [255] rfl rfl (bytesAt_new _ 5 [255] _ (by simp)) (by simp; omega) (by have := HK.out.size; simp; omega) ?_; intro v2 w2 hown2 hgrow)
        go_roundw
        case rel => exact ⟨j + 1, by omega, by go_num, by rw [HS.out] at hown2; exact hown2, (HK.out.alloc _).grow (own_still HO.out ((Kept.refl NoBlk _).alloc _)) (Nat.le_refl _) hgrow⟩
        case measure => first | (simp [intOf]; done) | (simp [intOf]; omega)
      · obtain rfl : j = 11 := by omega
        obtain ⟨A1, c1, rfl, h1, _, hat1, _⟩ := own_form ho
        have hfin : GaveB ((1 : UInt8) :: List.replicate 11 255) w (.returned (.slice A1 ((1 : UInt8) :: List.replicate 11 255).length c1)) wr := ⟨A1, c1, rfl, hat1, h1, HK.out⟩
        have FIN := Lib.hid hfin
        clear hfin ho hat1
        go_wp2_with fail
        go_ret
        exact FIN.out
  · rw [m107]
    clear m61 m89 m107 m127 m521
    go_enter Tryz.func25, Tryz.ntmps25
    go_wp2_with (at_builtin; refine wpList_append_bytes _ rfl _ _ rfl w.heap.size _ [] rfl (own_still hown0 ((Kept.refl NoBlk _).alloc _)) _ 1 _ [7] rfl rfl (bytesAt_new _ 5 [7] _ (by simp)) (by simp) (by simp; omega) ?_; intro v' w1 hown1 hgrow)
    have hk1 : Kept NoBlk w w1 := (((Kept.refl _ w).alloc _).alloc _).grow (own_still hown0 ((Kept.refl NoBlk _).alloc _)) (Nat.le_refl _) hgrow
    have HO1 : Hid (w1.ownsRow w.heap.size 5 1 v' ((7 : UInt8) :: List.replicate 0 255).length ((7 :: List.replicate 0 255).map B)) := Lib.hid hown1
    have HK1 := Lib.hid hk1
    clear hown1 hgrow hk1
    go_loopw [3, 17] (fun v iv wr => ∃ j : Nat, j ≤ 13 ∧ iv = .int .i64 (j : Int) ∧ wr.ownsRow w.heap.size 5 1 v ((7 : UInt8) :: List.replicate j 255).length ((7 :: List.replicate j 255).map B) ∧ Kept NoBlk w wr) (fun _ iv _ => 13 - (intOf iv).toNat)
    case atStart => exact ⟨0, Nat.zero_le _, rfl, HO1.out, HK1.out⟩
    case round =>
      obtain ⟨j, hj, rfl, ho, hk⟩ := hrel
      have HO := Lib.hid ho
      have HK := Lib.hid hk
      clear hk
      rcases Nat.lt_or_ge j 13 with hlt | hge
      · have hs : ((7 : UInt8) :: List.replicate j 255) ++ [255] = 7 :: List.replicate (j + 1) 255 := by rw [List.replicate_succ']; simp
        have HS := Lib.hid hs
        clear hs ho
        go_wp2_with (at_builtin; refine wpList_append_bytes _ rfl _ _ rfl w.heap.size _ ((7 : UInt8) :: List.replicate j 255) rfl (own_still HO.out ((Kept.refl NoBlk _).alloc _)) _ 1 _ [255] rfl rfl (bytesAt_new _ 5 [255] _ (by simp)) (by simp; omega) (by have := HK.out.size; simp; omega) ?_; intro v2 w2 hown2 hgrow)
        go_roundw
        case rel => exact ⟨j + 1, by omega, by go_num, by rw [HS.out] at hown2; exact hown2, (HK.out.alloc _).grow (own_still HO.out ((Kept.refl NoBlk _).alloc _)) (Nat.le_refl _) hgrow⟩
        case measure => first | (simp [intOf]; done) | (simp [intOf]; omega)
      · obtain rfl : j = 13 := by omega
        obtain ⟨A1, c1, rfl, h1, _, hat1, _⟩ := own_form ho
        have hfin : GaveB ((7 : UInt8) :: List.replicate 13 255) w (.returned (.slice A1 ((7 : UInt8) :: List.replicate 13 255).length c1)) wr := ⟨A1, c1, rfl, hat1, h1, HK.out⟩
        have FIN := Lib.hid hfin
        clear hfin ho hat1
        go_wp2_with fail
        go_ret
        exact FIN.out
  · rw [m127]
    clear m61 m89 m107 m127 m521
    go_enter Tryz.func25, Tryz.ntmps25
    go_wp2_with (at_builtin; refine wpList_append_bytes _ rfl _ _ rfl w.heap.size _ [] rfl (own_still hown0 ((Kept.refl NoBlk _).alloc _)) _ 1 _ [127] rfl rfl (bytesAt_new _ 5 [127] _ (by simp)) (by simp) (by simp; omega) ?_; intro v' w1 hown1 hgrow)
    have hk1 : Kept NoBlk w w1 := (((Kept.refl _ w).alloc _).alloc _).grow (own_still hown0 ((Kept.refl NoBlk _).alloc _)) (Nat.le_refl _) hgrow
    have HO1 : Hid (w1.ownsRow w.heap.size 5 1 v' ((127 : UInt8) :: List.replicate 0 255).length ((127 :: List.replicate 0 255).map B)) := Lib.hid hown1
    have HK1 := Lib.hid hk1
    clear hown1 hgrow hk1
    go_loopw [3, 17] (fun v iv wr => ∃ j : Nat, j ≤ 15 ∧ iv = .int .i64 (j : Int) ∧ wr.ownsRow w.heap.size 5 1 v ((127 : UInt8) :: List.replicate j 255).length ((127 :: List.replicate j 255).map B) ∧ Kept NoBlk w wr) (fun _ iv _ => 15 - (intOf iv).toNat)
    case atStart => exact ⟨0, Nat.zero_le _, rfl, HO1.out, HK1.out⟩
    case round =>
      obtain ⟨j, hj, rfl, ho, hk⟩ := hrel
      have HO := Lib.hid ho
      have HK := Lib.hid hk
      clear hk
      rcases Nat.lt_or_ge j 15 with hlt | hge
      · have hs : ((127 : UInt8) :: List.replicate j 255) ++ [255] = 127 :: List.replicate (j + 1) 255 := by rw [List.replicate_succ']; simp
        have HS := Lib.hid hs
        clear hs ho
        go_wp2_with (at_builtin; refine wpList_append_bytes _ rfl _ _ rfl w.heap.size _ ((127 : UInt8) :: List.replicate j 255) rfl (own_still HO.out ((Kept.refl NoBlk _).alloc _)) _ 1 _ [255] rfl rfl (bytesAt_new _ 5 [255] _ (by simp)) (by simp; omega) (by have := HK.out.size; simp; omega) ?_; intro v2 w2 hown2 hgrow)
        go_roundw
        case rel => exact ⟨j + 1, by omega, by go_num, by rw [HS.out] at hown2; exact hown2, (HK.out.alloc _).grow (own_still HO.out ((Kept.refl NoBlk _).alloc _)) (Nat.le_refl _) hgrow⟩
        case measure => first | (simp [intOf]; done) | (simp [intOf]; omega)
      · obtain rfl : j = 15 := by omega
        obtain ⟨A1, c1, rfl, h1, _, hat1, _⟩ := own_form ho
        have hfin : GaveB ((127 : UInt8) :: List.replicate 15 255) w (.returned (.slice A1 ((127 : UInt8) :: List.replicate 15 255).length c1)) wr := ⟨A1, c1, rfl, hat1, h1, HK.out⟩
        have FIN := Lib.hid hfin
        clear hfin ho hat1
        go_wp2_with fail
        go_ret
        exact FIN.out
  · rw [m521]
    clear m61 m89 m107 m127 m521
    go_enter Tryz.func25, Tryz.ntmps25
    go_wp2_with (at_builtin; refine wpList_append_bytes _ rfl _ _ rfl w.heap.size _ [] rfl (own_still hown0 ((Kept.refl NoBlk _).alloc _)) _ 1 _ [1] rfl rfl (bytesAt_new _ 5 [1] _ (by simp)) (by simp) (by simp; omega) ?_; intro v' w1 hown1 hgrow)
    have hk1 : Kept NoBlk w w1 := (((Kept.refl _ w).alloc _).alloc _).grow (own_still hown0 ((Kept.refl NoBlk _).alloc _)) (Nat.le_refl _) hgrow
    have HO1 : Hid (w1.ownsRow w.heap.size 5 1 v' ((1 : UInt8) :: List.replicate 0 255).length ((1 :: List.replicate 0 255).map B)) := Lib.hid hown1
    have HK1 := Lib.hid hk1
    clear hown1 hgrow hk1
    go_loopw [3, 17] (fun v iv wr => ∃ j : Nat, j ≤ 65 ∧ iv = .int .i64 (j : Int) ∧ wr.ownsRow w.heap.size 5 1 v ((1 : UInt8) :: List.replicate j 255).length ((1 :: List.replicate j 255).map B) ∧ Kept NoBlk w wr) (fun _ iv _ => 65 - (intOf iv).toNat)
    case atStart => exact ⟨0, Nat.zero_le _, rfl, HO1.out, HK1.out⟩
    case round =>
      obtain ⟨j, hj, rfl, ho, hk⟩ := hrel
      have HO := Lib.hid ho
      have HK := Lib.hid hk
      clear hk
      rcases Nat.lt_or_ge j 65 with hlt | hge
      · have hs : ((1 : UInt8) :: List.replicate j 255) ++ [255] = 1 :: List.replicate (j + 1) 255 := by rw [List.replicate_succ']; simp
        have HS := Lib.hid hs
        clear hs ho
        go_wp2_with (at_builtin; refine wpList_append_bytes _ rfl _ _ rfl w.heap.size _ ((1 : UInt8) :: List.replicate j 255) rfl (own_still HO.out ((Kept.refl NoBlk _).alloc _)) _ 1 _ [255] rfl rfl (bytesAt_new _ 5 [255] _ (by simp)) (by simp; omega) (by have := HK.out.size; simp; omega) ?_; intro v2 w2 hown2 hgrow)
        go_roundw
        case rel => exact ⟨j + 1, by omega, by go_num, by rw [HS.out] at hown2; exact hown2, (HK.out.alloc _).grow (own_still HO.out ((Kept.refl NoBlk _).alloc _)) (Nat.le_refl _) hgrow⟩
        case measure => first | (simp [intOf]; done) | (simp [intOf]; omega)
      · obtain rfl : j = 65 := by omega
        obtain ⟨A1, c1, rfl, h1, _, hat1, _⟩ := own_form ho
        have hfin : GaveB ((1 : UInt8) :: List.replicate 65 255) w (.returned (.slice A1 ((1 : UInt8) :: List.replicate 65 255).length c1)) wr := ⟨A1, c1, rfl, hat1, h1, HK.out⟩
        have FIN := Lib.hid hfin
        clear hfin ho hat1
        go_wp2_with fail
        go_ret
        exact FIN.out

theorem base_IsE : ∀ a, a ∈ base → IsE a := by
  intro a h
  simpa [base, IsE] using h

/-- The two rows of a pair. -/
def PairB (a b : Nat) (w : World) (e : Ending) (w' : World) : Prop := ∃ A c A' c', e = .returned (.tuple #[.slice A (mers a).length c, .slice A' (mers b).length c']) ∧ BytesAt w' A (mers a) ∧ (mers a).length ≤ c ∧ BytesAt w' A' (mers b) ∧ (mers b).length ≤ c' ∧ Kept NoBlk w w'

set_option maxHeartbeats 1600000 in
theorem pair_any (n : Nat) (hn : n < 256) (w : World) :
    Calls Tryz.prog 14 #[.int .u8 (n : Int)] w (PairB (e1 n) (e2 n) w) := by
  obtain ⟨i, hi⟩ : ∃ i, n % 5 = i := ⟨_, rfl⟩
  obtain ⟨k, hk⟩ : ∃ k, n / 5 % 4 = k := ⟨_, rfl⟩
  obtain ⟨j, hj⟩ : ∃ j, (if i ≤ k then k + 1 else k) = j := ⟨_, rfl⟩
  have hi5 : i < 5 := by omega
  have hj5 : j < 5 := by split at hj <;> omega
  obtain ⟨a, ha⟩ : ∃ a, base.getD i 0 = a := ⟨_, rfl⟩
  obtain ⟨b, hb⟩ : ∃ b, base.getD j 0 = b := ⟨_, rfl⟩
  have hE1 : e1 n = a := by unfold e1; rw [hi, ha]
  have hE2 : e2 n = b := by unfold e2; rw [hi, hk, hj, hb]
  rw [hE1, hE2]
  have hia : IsE a := by
    have h : i = 0 ∨ i = 1 ∨ i = 2 ∨ i = 3 ∨ i = 4 := by omega
    rcases h with rfl | rfl | rfl | rfl | rfl <;> (subst ha; simp [base, IsE])
  have hib : IsE b := by
    have h : j = 0 ∨ j = 1 ∨ j = 2 ∨ j = 3 ∨ j = 4 := by omega
    rcases h with rfl | rfl | rfl | rfl | rfl <;> (subst hb; simp [base, IsE])
  have hc : ∀ (v : Nat), v < 5 → (w.alloc (.cells #[.int .i64 61, .int .i64 89, .int .i64 107, .int .i64 127, .int .i64 521] 3)).cell? ⟨w.heap.size, v, none⟩ = some (.int .i64 ((base.getD v 0 : Nat) : Int)) := by
    intro v hv
    have h := (Blk.new w 3 #[.int .i64 61, .int .i64 89, .int .i64 107, .int .i64 127, .int .i64 521]).cell v
    rw [h]
    have h : v = 0 ∨ v = 1 ∨ v = 2 ∨ v = 3 ∨ v = 4 := by omega
    rcases h with rfl | rfl | rfl | rfl | rfl <;> rfl
  have ca := hc i hi5
  have cb := hc j hj5
  rw [ha] at ca
  rw [hb] at cb
  have mi : (n : Int).tmod 5 = (i : Int) := by rw [Int.tmod_eq_emod_of_nonneg (by omega)]; omega
  have mk : (n : Int) / 5 % 4 = (k : Int) := by omega
  have hi5i : (i : Int) < 5 := by omega
  have hj5i : (j : Int) < 5 := by omega
  have mi2 : (n : Int) % 5 = (i : Int) := by omega
  have HMA := Lib.hid (mers_any a hia)
  have HMB := Lib.hid (mers_any b hib)
  have hk4 : k < 4 := by omega
  clear hc ha hb hE1 hE2 hia hib hi hk
  by_cases hik : i ≤ k
  · rw [if_pos hik] at hj
    have hki : (k : Int) + 1 = (j : Int) := by omega
    have hge : (i : Int) ≤ (k : Int) := by omega
    clear hj hik
    go_enter Tryz.func14, Tryz.ntmps14
    go_wp2_with fail
    generalize hW : w.alloc (.cells #[.int .i64 61, .int .i64 89, .int .i64 107, .int .i64 127, .int .i64 521] 3) = W at ca cb ⊢
    have kW : Kept NoBlk w W := by rw [← hW]; exact (Kept.refl _ w).alloc _
    have sW : w.heap.size < W.heap.size := by rw [← hW]; simp
    have KW := Lib.hid kW
    clear hW kW
    go_region_held3 (fun w' => w'.cell? ⟨w.heap.size, i, none⟩ = some (.int .i64 (a : Int)) ∧ w'.cell? ⟨w.heap.size, j, none⟩ = some (.int .i64 (b : Int))) (go_keep) (first
      | (go_at_call 25; (with_reducible refine (HMA.out _).mono ?_); rintro x wA ⟨A1, cA, rfl, hatA, hcA, kA⟩; have cbA : wA.cell? ⟨w.heap.size, j, none⟩ = some (.int .i64 (b : Int)) := (kA.cell (p := ⟨w.heap.size, j, none⟩) sW (fun e => e)).trans cb; have caA : wA.cell? ⟨w.heap.size, i, none⟩ = some (.int .i64 (a : Int)) := (kA.cell (p := ⟨w.heap.size, i, none⟩) sW (fun e => e)).trans ca)
      | (go_at_call 25; (with_reducible refine (HMB.out _).mono ?_); rintro x wB ⟨A2, cB, rfl, hatB, hcB, kB'⟩; have kB : Kept NoBlk wA wB := kB'; have sA := kA.size; have cbB : wB.cell? ⟨w.heap.size, j, none⟩ = some (.int .i64 (b : Int)) := (kB.cell (p := ⟨w.heap.size, j, none⟩) (Nat.lt_of_lt_of_le sW sA) (fun e => e)).trans cbA; have caB : wB.cell? ⟨w.heap.size, i, none⟩ = some (.int .i64 (a : Int)) := (kB.cell (p := ⟨w.heap.size, i, none⟩) (Nat.lt_of_lt_of_le sW sA) (fun e => e)).trans caA))
    all_goals
      have hfin : ∀ w', Kept NoBlk wB w' → PairB a b w (.returned (.tuple #[.slice A1 (mers a).length cA, .slice A2 (mers b).length cB])) w' := fun w' k =>
        ⟨A1, cA, A2, cB, rfl, (hatA.still kB).still k, hcA, hatB.still k, hcB, ((KW.out.none (((Kept.refl NoBlk W).drew).trans kA)).none kB).none k⟩
      have FIN := Lib.hid hfin
      clear hfin hatA hatB kA kB
      go_wp2_with fail
      go_ret2
      exact FIN.out _ (by first | exact Kept.refl _ _ | exact (Kept.refl _ _).drew | exact (Kept.refl _ _).drewN _)
  · rw [if_neg hik] at hj
    obtain rfl : k = j := hj
    have hge : ¬ (i : Int) ≤ (k : Int) := by omega
    clear hik
    go_enter Tryz.func14, Tryz.ntmps14
    go_wp2_with fail
    generalize hW : w.alloc (.cells #[.int .i64 61, .int .i64 89, .int .i64 107, .int .i64 127, .int .i64 521] 3) = W at ca cb ⊢
    have kW : Kept NoBlk w W := by rw [← hW]; exact (Kept.refl _ w).alloc _
    have sW : w.heap.size < W.heap.size := by rw [← hW]; simp
    have KW := Lib.hid kW
    clear hW kW
    go_region_held3 (fun w' => w'.cell? ⟨w.heap.size, i, none⟩ = some (.int .i64 (a : Int)) ∧ w'.cell? ⟨w.heap.size, k, none⟩ = some (.int .i64 (b : Int))) (go_keep) (first
      | (go_at_call 25; (with_reducible refine (HMA.out _).mono ?_); rintro x wA ⟨A1, cA, rfl, hatA, hcA, kA⟩; have cbA : wA.cell? ⟨w.heap.size, k, none⟩ = some (.int .i64 (b : Int)) := (kA.cell (p := ⟨w.heap.size, k, none⟩) sW (fun e => e)).trans cb; have caA : wA.cell? ⟨w.heap.size, i, none⟩ = some (.int .i64 (a : Int)) := (kA.cell (p := ⟨w.heap.size, i, none⟩) sW (fun e => e)).trans ca)
      | (go_at_call 25; (with_reducible refine (HMB.out _).mono ?_); rintro x wB ⟨A2, cB, rfl, hatB, hcB, kB'⟩; have kB : Kept NoBlk wA wB := kB'; have sA := kA.size; have cbB : wB.cell? ⟨w.heap.size, k, none⟩ = some (.int .i64 (b : Int)) := (kB.cell (p := ⟨w.heap.size, k, none⟩) (Nat.lt_of_lt_of_le sW sA) (fun e => e)).trans cbA; have caB : wB.cell? ⟨w.heap.size, i, none⟩ = some (.int .i64 (a : Int)) := (kB.cell (p := ⟨w.heap.size, i, none⟩) (Nat.lt_of_lt_of_le sW sA) (fun e => e)).trans caA))
    all_goals
      have hfin : ∀ w', Kept NoBlk wB w' → PairB a b w (.returned (.tuple #[.slice A1 (mers a).length cA, .slice A2 (mers b).length cB])) w' := fun w' k =>
        ⟨A1, cA, A2, cB, rfl, (hatA.still kB).still k, hcA, hatB.still k, hcB, ((KW.out.none (((Kept.refl NoBlk W).drew).trans kA)).none kB).none k⟩
      have FIN := Lib.hid hfin
      clear hfin hatA hatB kA kB
      go_wp2_with fail
      go_ret2
      exact FIN.out _ (by first | exact Kept.refl _ _ | exact (Kept.refl _ _).drew | exact (Kept.refl _ _).drewN _)

theorem modulus_spec (n : Nat) (hn : n < 256) (w : World) :
    Calls Tryz.prog 15 #[.int .u8 (n : Int)] w (GaveB (encT (Mp (e1 n) * Mp (e2 n))) w) := by
  have HP := Lib.hid (pair_any n hn w)
  have hd := duo n hn
  have h1 := hd.na
  have h2 := hd.la
  have hs := hd.sum
  have hd2 : num (mers (e2 n)) = Mp (e2 n) ∧ (mers (e2 n)).length = (e2 n + 7) / 8 := ⟨hd.nb, hd.lb⟩
  go_enter Tryz.func15, Tryz.ntmps15
  go_wp2_with fail
  refine HP.out.mono ?_
  rintro e w1 ⟨A, c, A', c', rfl, hat1, hc1, hat2, hc2, k1⟩
  have hpr := product_any w1 A A' c c' (mers (e1 n)) (mers (e2 n)) hat1 hat2 (by rw [h2]; omega) (by rw [hd2.2]; omega)
  rw [h1, hd2.1] at hpr
  have HPR := Lib.hid hpr
  have K1 := Lib.hid k1
  clear hpr k1 hat1 hat2 HP h1 h2 hs hd2 hd
  go_wp2_with fail
  refine HPR.out.mono ?_
  rintro e w2 ⟨A2, c2, rfl, hat, hc, k2⟩
  have hfin : GaveB (encT (Mp (e1 n) * Mp (e2 n))) w (.returned (.slice A2 (encT (Mp (e1 n) * Mp (e2 n))).length c2)) w2 := ⟨A2, c2, rfl, hat, hc, K1.out.none k2⟩
  have FIN := Lib.hid hfin
  clear hfin hat k2 HPR
  go_wp2_with fail
  go_ret
  exact FIN.out

end Go.Proofs.YtdmpiecdpdknaaaGreatDoor
