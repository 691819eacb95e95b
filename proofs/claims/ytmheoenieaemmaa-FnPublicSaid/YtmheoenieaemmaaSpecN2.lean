/-
  spec.plus, minus, added, times.
-/
import Derived.Test.YtmheoenieaemmaaSpecN1
import Derived.BigQuiet
import Derived.Deep.QuietTactic
namespace Go.Proofs.Ytmheoenieaemmaa
open Go.RowKit

theorem zeros_at {n : Nat} : ∀ j, j < n → (List.replicate n (0 : UInt8))[j]? = some 0 := by
  intro j h
  rw [List.getElem?_replicate, if_pos h]

/-- The state of a row that is made from its end. -/
def LowRow (g n t : Nat) (o : List UInt8) (w0 wr : World) : Prop := o.length = n ∧ (∀ j, j < n - t → o[j]? = some 0) ∧ Blk wr g 5 (o.map B).toArray ∧ Kept NoBlk w0 wr

theorem LowRow.start (w : World) (n : Nat) : LowRow w.heap.size n 0 (List.replicate n 0) w (w.alloc (.cells (zeroRow n) 5)) :=
  ⟨List.length_replicate, fun j h => zeros_at j (by omega), Blk.new w _ _, (Kept.refl _ w).alloc _⟩
theorem LowRow.step {g n t : Nat} {o : List UInt8} {w0 wr w' : World} {c : Int} {x : UInt8} (h : LowRow g n t o w0 wr) (ht : t < n) (hg : w0.heap.size ≤ g) (hc : c = (x.toNat : Int))
    (hw : w' = wr.setCell ⟨g, n - 1 - t, none⟩ (.int .u8 c)) : LowRow g n (t + 1) (o.set (n - 1 - t) x) w0 w' := by
  subst hw hc
  obtain ⟨h1, h2, h3, h4⟩ := h
  refine ⟨by rw [List.length_set, h1], fun j hj => ?_, ?_, h4.setNew hg _ _⟩
  · rw [List.getElem?_set_ne (by omega)]; exact h2 j (by omega)
  · have := h3.set_ (n - 1 - t) (.int .u8 (x.toNat : Int))
    rw [List.setIfInBounds_toArray] at this
    rw [List.map_set]; exact this
theorem LowRow.at_ {g n t : Nat} {o : List UInt8} {w0 wr : World} (h : LowRow g n t o w0 wr) (ht : t < n) : wr.cell? ⟨g, n - 1 - t, none⟩ = some (.int .u8 0) ∧ wr.frozen? ⟨g, n - 1 - t, none⟩ = false ∧ o[n - 1 - t]? = some 0 := by
  have h0 := h.2.1 (n - 1 - t) (by omega)
  exact ⟨h.2.2.1.cellIs (by rw [List.getElem?_toArray, List.getElem?_map, h0]; rfl), h.2.2.1.frozen _, h0⟩

theorem LowRow.drewN {g n t : Nat} {o : List UInt8} {w0 wr : World} (h : LowRow g n t o w0 wr) (k : Nat) : LowRow g n t o w0 (wr.drewN k) := ⟨h.1, h.2.1, h.2.2.1, h.2.2.2.drewN k⟩

/-- The sum and its carry. -/
def PlusB (n s : Nat) (w : World) (e : Ending) (w' : World) : Prop := ∃ g, e = .returned (.tuple #[.slice (some ⟨g, 0, none⟩) n n, .int .i64 ((s / Pb n : Nat) : Int)]) ∧ w.heap.size ≤ g ∧ Blk w' g 5 ((enc n s).map B).toArray ∧ Kept NoBlk w w'

theorem plus_any (w : World) (A A' : Option Addr) (c c' n : Nat) (xs ys : List UInt8) (hx : BytesAt w A xs) (hy : BytesAt w A' ys) (hxl : xs.length = n) (hyl : ys.length = n) (hl : n ≤ 1000000) :
    Calls Try.prog 41 #[.slice A n c, .slice A' n c'] w (PlusB n (num xs + num ys) w) := by
  have hmk := make_bytes w n (by omega)
  have HX := Lib.hid hx
  have HY := Lib.hid hy
  have HXL := Lib.hid hxl
  have HYL := Lib.hid hyl
  clear hx hy hxl hyl
  go_enter Try.func41, Try.ntmps41
  go_wp2_with fail
  clear hmk
  go_loopw [7, 8] (fun cv iv wr => ∃ (t k : Nat) (o : List UInt8), t ≤ n ∧ k ≤ 1 ∧ cv = .int .i64 (k : Int) ∧ iv = .int .i64 ((n : Int) - t - 1) ∧ LowRow w.heap.size n t o w wr ∧ num o + k * Pb t = num (xs.drop (n - t)) + num (ys.drop (n - t))) (fun _ iv _ => (intOf iv + 1).toNat)
  case atStart => exact ⟨0, 0, _, Nat.zero_le _, by omega, rfl, by go_num, LowRow.start w n, by
    rw [num_zeros, Nat.zero_mul, Nat.sub_zero, ← HXL.out, num_drop_all, HXL.out, ← HYL.out, num_drop_all]⟩
  case round =>
    obtain ⟨t, k, o, ht, hk, rfl, hiv, hrow, hsum⟩ := hrel
    rcases Nat.lt_or_ge t n with hlt | hge
    · have hin : (n : Int) - t - 1 = ((n - 1 - t : Nat) : Int) := by omega
      rw [hin] at hiv
      subst hiv
      obtain ⟨x, hxi⟩ : ∃ x, xs[n - 1 - t]? = some x := ⟨_, List.getElem?_eq_getElem (by rw [HXL.out]; omega)⟩
      obtain ⟨y, hyi⟩ : ∃ y, ys[n - 1 - t]? = some y := ⟨_, List.getElem?_eq_getElem (by rw [HYL.out]; omega)⟩
      obtain ⟨b, off, rfl, hb, hcell⟩ := (HX.out.still hrow.2.2.2).at_ (k := 0) (by rw [HXL.out]; omega)
      obtain ⟨b', off', rfl, hb', hcell'⟩ := (HY.out.still hrow.2.2.2).at_ (k := 0) (by rw [HYL.out]; omega)
      have cx : wr.cell? ⟨b, off + (n - 1 - t), none⟩ = some (.int .u8 (x.toNat : Int)) := hcell _ x hxi
      have cy : wr.cell? ⟨b', off' + (n - 1 - t), none⟩ = some (.int .u8 (y.toNat : Int)) := hcell' _ y hyi
      obtain ⟨co, cf, c0⟩ := hrow.at_ hlt
      have hnx : ∀ z : UInt8, _ := fun z => plus_step o xs ys n (n - 1 - t) k x y (by omega) HXL.out HYL.out hrow.1 hxi hyi c0 (by rw [show n - 1 - (n - 1 - t) = t by omega, show n - 1 - t + 1 = n - t by omega]; exact hsum)
      have hn2 := hnx 0
      rw [show n - (n - 1 - t) = t + 1 by omega, show n - 1 - t = n - (t + 1) by omega] at hn2
      have bx := byte_le x
      have by_ := byte_le y
      have hi1 : ((n - 1 - t : Nat) : Int) < (n : Int) := by omega
      obtain ⟨m, hm⟩ : ∃ m, k + (x.toNat + y.toNat) = m := ⟨_, rfl⟩
      have hmi : (k : Int) + ((x.toNat : Int) + (y.toNat : Int)) = (m : Int) := by omega
      have hm511 : m ≤ 511 := by omega
      rw [hm] at hn2
      have HROW := Lib.hid hrow
      have HN2 := Lib.hid hn2
      have HIN := Lib.hid hin
      clear hcell hcell' hxi hyi c0 hsum hrow hnx hn2 hm hin
      go_wp2_with fail
      go_quiet (fail)
      go_wp2_with fail
      go_roundw
      case rel =>
        have h := (HROW.out.drewN nq).step (x := UInt8.ofNat m) hlt (Nat.le_refl _) (c := (m : Int) % 256) (by rw [toNat_of]; rfl) rfl
        rw [show n - 1 - t = n - (t + 1) by omega] at h
        refine ⟨t + 1, m / 256, o.set (n - (t + 1)) (UInt8.ofNat m), by omega, by omega, by rfl, ?_, ?_, HN2.out⟩
        · rw [← HIN.out, show (n : Int) - t - 1 - 1 = (n : Int) - (t + 1 : Nat) - 1 by omega]
        · rw [show n - 1 - t = n - (t + 1) by omega]; exact h
      case measure => first | (simp [intOf]; done) | (simp [intOf]; omega)
    · obtain rfl : t = n := by omega
      subst hiv
      have hend := plus_end o t k _ hrow.1 hsum
      rw [Nat.sub_self, List.drop_zero, List.drop_zero] at hend
      have hfin : PlusB t (num xs + num ys) w (.returned (.tuple #[.slice (some ⟨w.heap.size, 0, none⟩) t t, .int .i64 (k : Int)])) wr := by
        rw [hend.2]
        exact ⟨_, rfl, Nat.le_refl _, hend.1 ▸ hrow.2.2.1, hrow.2.2.2⟩
      have FIN := Lib.hid hfin
      have hneg : ¬ (0 : Int) ≤ (t : Int) - t - 1 := by omega
      clear hfin hend hrow hsum
      go_wp2_with fail
      go_ret2
      exact FIN.out

theorem minus_any (w : World) (A A' : Option Addr) (c c' n : Nat) (xs ys : List UInt8) (hx : BytesAt w A xs) (hy : BytesAt w A' ys) (hxl : xs.length = n) (hyl : ys.length = n) (hl : n ≤ 1000000) :
    Calls Try.prog 47 #[.slice A n c, .slice A' n c'] w (MadeB (enc n (((num xs : Int) - num ys) % (Pb n : Nat)).toNat) w) := by
  have hmk := make_bytes w n (by omega)
  have HX := Lib.hid hx
  have HY := Lib.hid hy
  have HXL := Lib.hid hxl
  have HYL := Lib.hid hyl
  clear hx hy hxl hyl
  go_enter Try.func47, Try.ntmps47
  go_wp2_with fail
  clear hmk
  go_loopw [6, 7] (fun cv iv wr => ∃ (t : Nat) (k : Int) (o : List UInt8), t ≤ n ∧ -1 ≤ k ∧ k ≤ 0 ∧ cv = .int .i64 k ∧ iv = .int .i64 ((n : Int) - t - 1) ∧ LowRow w.heap.size n t o w wr ∧ (num o : Int) + k * (Pb t : Nat) = (num (xs.drop (n - t)) : Int) - num (ys.drop (n - t))) (fun _ iv _ => (intOf iv + 1).toNat)
  case atStart => exact ⟨0, 0, _, Nat.zero_le _, by omega, by omega, rfl, by go_num, LowRow.start w n, by
    rw [num_zeros, Int.zero_mul, Nat.sub_zero, ← HXL.out, num_drop_all, HXL.out, ← HYL.out, num_drop_all]; rfl⟩
  case round =>
    obtain ⟨t, k, o, ht, hk1, hk2, rfl, hiv, hrow, hsum⟩ := hrel
    rcases Nat.lt_or_ge t n with hlt | hge
    · have hin : (n : Int) - t - 1 = ((n - 1 - t : Nat) : Int) := by omega
      rw [hin] at hiv
      subst hiv
      obtain ⟨x, hxi⟩ : ∃ x, xs[n - 1 - t]? = some x := ⟨_, List.getElem?_eq_getElem (by rw [HXL.out]; omega)⟩
      obtain ⟨y, hyi⟩ : ∃ y, ys[n - 1 - t]? = some y := ⟨_, List.getElem?_eq_getElem (by rw [HYL.out]; omega)⟩
      obtain ⟨b, off, rfl, hb, hcell⟩ := (HX.out.still hrow.2.2.2).at_ (k := 0) (by rw [HXL.out]; omega)
      obtain ⟨b', off', rfl, hb', hcell'⟩ := (HY.out.still hrow.2.2.2).at_ (k := 0) (by rw [HYL.out]; omega)
      have cx : wr.cell? ⟨b, off + (n - 1 - t), none⟩ = some (.int .u8 (x.toNat : Int)) := hcell _ x hxi
      have cy : wr.cell? ⟨b', off' + (n - 1 - t), none⟩ = some (.int .u8 (y.toNat : Int)) := hcell' _ y hyi
      obtain ⟨co, cf, c0⟩ := hrow.at_ hlt
      have hn2 := minus_step o xs ys n (n - 1 - t) k x y (by omega) HXL.out HYL.out hrow.1 hxi hyi c0 (by rw [show n - 1 - (n - 1 - t) = t by omega, show n - 1 - t + 1 = n - t by omega]; exact hsum)
      rw [show n - (n - 1 - t) = t + 1 by omega, show n - 1 - t = n - (t + 1) by omega] at hn2
      have bx := byte_le x
      have by_ := byte_le y
      have hi1 : ((n - 1 - t : Nat) : Int) < (n : Int) := by omega
      obtain ⟨m, hm⟩ : ∃ m, k + ((x.toNat : Int) - (y.toNat : Int)) = m := ⟨_, rfl⟩
      have hm1 : -256 ≤ m := by omega
      have hm2 : m ≤ 255 := by omega
      rw [hm] at hn2
      have HROW := Lib.hid hrow
      have HN2 := Lib.hid hn2
      have HIN := Lib.hid hin
      clear hcell hcell' hxi hyi c0 hsum hrow hn2 hin
      go_wp2_with fail
      go_quiet (fail)
      go_wp2_with fail
      go_roundw
      case rel =>
        have h := (HROW.out.drewN nq).step (x := UInt8.ofNat (m % 256).toNat) hlt (Nat.le_refl _) (c := m % 256) (by rw [toNat_of]; omega) rfl
        rw [show n - 1 - t = n - (t + 1) by omega] at h
        refine ⟨t + 1, m / 256, o.set (n - (t + 1)) (UInt8.ofNat (m % 256).toNat), by omega, by omega, by omega, by rfl, ?_, ?_, HN2.out⟩
        · rw [← HIN.out, show (n : Int) - t - 1 - 1 = (n : Int) - (t + 1 : Nat) - 1 by omega]
        · rw [show n - 1 - t = n - (t + 1) by omega]; exact h
      case measure => first | (simp [intOf]; done) | (simp [intOf]; omega)
    · obtain rfl : t = n := by omega
      subst hiv
      have hend := minus_end o t k (num xs) (num ys) hrow.1 (by rw [Nat.sub_self, List.drop_zero, List.drop_zero] at hsum; exact hsum)
      have hfin : MadeB (enc t (((num xs : Int) - num ys) % (Pb t : Nat)).toNat) w (.returned (.slice (some ⟨w.heap.size, 0, none⟩) t t)) wr := by
        rw [← hend]
        exact ⟨_, by rw [hrow.1], Nat.le_refl _, hrow.2.2.1, hrow.2.2.2⟩
      have FIN := Lib.hid hfin
      have hneg : ¬ (0 : Int) ≤ (t : Int) - t - 1 := by omega
      clear hfin hend hrow hsum
      go_wp2_with fail
      go_ret
      exact FIN.out

theorem added_any (w : World) (A A' A'' : Option Addr) (c c' c'' n : Nat) (xs ys ms : List UInt8) (hx : BytesAt w A xs) (hy : BytesAt w A' ys) (hm : BytesAt w A'' ms) (hxl : xs.length = n) (hyl : ys.length = n) (hml : ms.length = n) (hl : n ≤ 1000000) (hc : n ≤ c'')
    (h1 : num xs < num ms) (h2 : num ys < num ms) :
    Calls Try.prog 37 #[.slice A n c, .slice A' n c', .slice A'' n c''] w (MadeB (enc n ((num xs + num ys) % num ms)) w) := by
  have HP := Lib.hid (plus_any w A A' c c' n xs ys hx hy hxl hyl hl)
  obtain ⟨s, hs⟩ : ∃ s, num xs + num ys = s := ⟨_, rfl⟩
  have hend := added_cases n (num xs) (num ys) (num ms) s h1 h2 (by rw [← hml]; exact num_lt ms) hs
  rw [hs] at HP ⊢
  have HM := Lib.hid hm
  have HML := Lib.hid hml
  clear hx hy hm hxl hyl h1 h2 hs hml
  have hpost : ∀ (w1 : World) (g : Nat), w.heap.size ≤ g → Blk w1 g 5 ((enc n s).map B).toArray → Kept NoBlk w w1 → True := fun _ _ _ _ _ => trivial
  clear hpost
  rcases hend with ⟨h0, hlt, hv⟩ | ⟨h0, hlt, hv⟩ | ⟨h0, hv⟩
  · have HV := Lib.hid hv
    have hd : decide (s % Pb n < num ms) = true := decide_eq_true hlt
    unfold PlusB at HP
    rw [h0] at HP
    clear hv hlt h0
    go_enter Try.func37, Try.ntmps37
    go_wp2_with fail
    refine HP.out.mono ?_
    rintro e w1 ⟨g, rfl, hg, hb, hk⟩
    have hle := less_any w1 (some ⟨g, 0, none⟩) A'' n c'' (enc n s) ms hb.bytes (HM.out.still hk) (by rw [enc_length]; exact Nat.le_refl _) (by rw [HML.out]; exact hc) (by rw [enc_length]; omega) (by rw [HML.out]; omega)
    rw [enc_length, HML.out, num_enc, hd] at hle
    have HLE := Lib.hid hle
    have HB := Lib.hid hb
    have HK := Lib.hid hk
    clear hb hk hle hd HP
    go_wp2_with fail
    refine HLE.out.mono ?_
    rintro e w2 ⟨rfl, k2⟩
    have hfin : MadeB (enc n (s % num ms)) w (.returned (.slice (some ⟨g, 0, none⟩) n n)) w2 := ⟨g, by rw [enc_length], hg, by rw [← HV.out, show enc n (s % Pb n) = enc n s from num_inj (by simp [enc_length]) (by rw [num_enc, num_enc, Nat.mod_mod])]; exact HB.out.kept k2 (fun e => e), HK.out.none k2⟩
    have FIN := Lib.hid hfin
    clear hfin k2 HLE
    go_wp2_with fail
    go_ret
    exact FIN.out
  · have HV := Lib.hid hv
    have hd : decide (s % Pb n < num ms) = false := decide_eq_false hlt
    unfold PlusB at HP
    rw [h0] at HP
    clear hv hlt h0
    go_enter Try.func37, Try.ntmps37
    go_wp2_with fail
    refine HP.out.mono ?_
    rintro e w1 ⟨g, rfl, hg, hb, hk⟩
    have hle := less_any w1 (some ⟨g, 0, none⟩) A'' n c'' (enc n s) ms hb.bytes (HM.out.still hk) (by rw [enc_length]; exact Nat.le_refl _) (by rw [HML.out]; exact hc) (by rw [enc_length]; omega) (by rw [HML.out]; omega)
    rw [enc_length, HML.out, num_enc, hd] at hle
    have HLE := Lib.hid hle
    have HB := Lib.hid hb
    have HK := Lib.hid hk
    clear hb hk hle hd HP
    go_wp2_with fail
    refine HLE.out.mono ?_
    rintro e w2 ⟨rfl, k2⟩
    have hmi := minus_any w2 (some ⟨g, 0, none⟩) A'' n c'' n (enc n s) ms (HB.out.kept k2 (fun e => e)).bytes (HM.out.still (HK.out.none k2)) (enc_length _ _) HML.out hl
    rw [num_enc, HV.out] at hmi
    have HMI := Lib.hid hmi
    have HK2 := Lib.hid (HK.out.none k2)
    clear k2 HLE hmi
    go_wp2_with fail
    refine HMI.out.mono ?_
    rintro e w3 ⟨g3, rfl, hg3, hb3, k3⟩
    have hfin : MadeB (enc n (s % num ms)) w (.returned (.slice (some ⟨g3, 0, none⟩) (enc n (s % num ms)).length (enc n (s % num ms)).length)) w3 := ⟨g3, rfl, Nat.le_trans HK2.out.size hg3, hb3, HK2.out.none k3⟩
    have FIN := Lib.hid hfin
    clear hfin k3 hb3 HMI
    go_wp2_with fail
    go_ret
    exact FIN.out
  · have HV := Lib.hid hv
    unfold PlusB at HP
    rw [h0] at HP
    clear hv h0
    go_enter Try.func37, Try.ntmps37
    go_wp2_with fail
    refine HP.out.mono ?_
    rintro e w1 ⟨g, rfl, hg, hb, hk⟩
    have hmi := minus_any w1 (some ⟨g, 0, none⟩) A'' n c'' n (enc n s) ms hb.bytes (HM.out.still hk) (enc_length _ _) HML.out hl
    rw [num_enc, HV.out] at hmi
    have HMI := Lib.hid hmi
    have HK2 := Lib.hid hk
    clear hb hk HP hmi
    go_wp2_with fail
    refine HMI.out.mono ?_
    rintro e w3 ⟨g3, rfl, hg3, hb3, k3⟩
    have hfin : MadeB (enc n (s % num ms)) w (.returned (.slice (some ⟨g3, 0, none⟩) (enc n (s % num ms)).length (enc n (s % num ms)).length)) w3 := ⟨g3, rfl, Nat.le_trans HK2.out.size hg3, hb3, HK2.out.none k3⟩
    have FIN := Lib.hid hfin
    clear hfin k3 hb3 HMI
    go_wp2_with fail
    go_ret
    exact FIN.out

theorem and_one_u8 (x : Nat) (hx : x ≤ 255) : bits .and .u8 (x : Int) 1 = ((x % 2 : Nat) : Int) := by
  have h1 : (BitVec.ofInt 8 (x : Int)).toNat = x := by
    rw [BitVec.ofInt_natCast, BitVec.toNat_ofNat]; exact Nat.mod_eq_of_lt (by omega)
  have h2 : (BitVec.ofInt 8 ((1 : Nat) : Int)).toNat = 1 := by
    rw [BitVec.ofInt_natCast, BitVec.toNat_ofNat]
  show IntKind.u8.wrap ((BitVec.ofInt 8 (x : Int) &&& BitVec.ofInt 8 ((1 : Nat) : Int)).toNat : Int) = _
  rw [BitVec.toNat_and, h1, h2, IntKind.wrap_u8, Nat.and_one_is_mod]
  omega

theorem times_any (w : World) (A A' A'' : Option Addr) (c c' c'' n : Nat) (xs ys ms : List UInt8) (hx : BytesAt w A xs) (hy : BytesAt w A' ys) (hm : BytesAt w A'' ms) (hxl : xs.length = n) (hml : ms.length = n) (hl : n ≤ 1000000) (hyl : ys.length ≤ 1000000) (hc : n ≤ c'')
    (h1 : num xs < num ms) :
    Calls Try.prog 27 #[.slice A n c, .slice A' ys.length c', .slice A'' n c''] w (MadeB (enc n ((num ys * num xs) % num ms)) w) := by
  have hmk := make_bytes w n (by omega)
  have HX := Lib.hid hx
  have HY := Lib.hid hy
  have HM := Lib.hid hm
  have HXL := Lib.hid hxl
  have HML := Lib.hid hml
  have H1 := Lib.hid h1
  clear hx hy hm hxl hml h1
  go_enter Try.func27, Try.ntmps27
  go_wp2_with fail
  clear hmk
  go_loopw [7, 15] (fun ov iv wr => ∃ (i g : Nat), i ≤ 8 * ys.length ∧ iv = .int .i64 (i : Int) ∧ ov = .slice (some ⟨g, 0, none⟩) n n ∧ w.heap.size ≤ g ∧ Blk wr g 5 ((enc n (num ys / 2 ^ (8 * ys.length - i) * num xs % num ms)).map B).toArray ∧ Kept NoBlk w wr) (fun _ iv _ => 8 * ys.length - (intOf iv).toNat)
  case atStart => exact ⟨0, w.heap.size, Nat.zero_le _, rfl, rfl, Nat.le_refl _, by
    rw [Nat.sub_zero, ← Pb_two, Nat.div_eq_of_lt (num_lt ys), Nat.zero_mul, Nat.zero_mod, enc_zero]
    exact Blk.new w _ _, (Kept.refl _ w).alloc _⟩
  case round =>
    obtain ⟨i, g, hi, rfl, rfl, hg, hb, hk⟩ := hrel
    obtain ⟨v, hv⟩ : ∃ v, num ys / 2 ^ (8 * ys.length - i) = v := ⟨_, rfl⟩
    rw [hv] at hb
    have HK := Lib.hid hk
    have HB := Lib.hid hb
    rcases Nat.lt_or_ge i (8 * ys.length) with hlt | hge
    · obtain ⟨z, hz⟩ : ∃ z, ys[i / 8]? = some z := ⟨_, List.getElem?_eq_getElem (by omega)⟩
      have hbit := bit_at ys i hlt z hz
      rw [hv] at hbit
      obtain ⟨b, off, rfl, hbl, hcell⟩ := (HY.out.still hk).at_ (k := 0) (by omega)
      have cz : wr.cell? ⟨b, off + i / 8, none⟩ = some (.int .u8 (z.toNat : Int)) := hcell _ z hz
      have bz := byte_le z
      have hmp : 0 < num ms := by have := H1.out; omega
      have hva : v * num xs % num ms < num ms := Nat.mod_lt _ hmp
      have hvp := num_lt ms
      rw [HML.out] at hvp
      have hnv : num (enc n (v * num xs % num ms)) = v * num xs % num ms := num_enc_of_lt (by omega)
      have HA := added_any wr (some ⟨g, 0, none⟩) (some ⟨g, 0, none⟩) A'' n n c'' n _ _ ms hb.bytes hb.bytes (HM.out.still hk) (enc_length _ _) (enc_length _ _) HML.out hl hc (by rw [hnv]; exact hva) (by rw [hnv]; exact hva)
      rw [hnv] at HA
      have HAD := Lib.hid HA
      obtain ⟨x, hx⟩ : ∃ x, z.toNat / 2 ^ (7 - i % 8) = x := ⟨_, rfl⟩
      have hxl : x ≤ 255 := by rw [← hx]; exact Nat.le_trans (Nat.div_le_self _ _) bz
      rw [hx] at hbit
      have hsh : (z.toNat : Int) / 2 ^ (7 - i % 8) = (x : Int) := by
        rw [← hx]; simp
      have HBIT := Lib.hid hbit
      have e7 : (7 : Int) - ((i : Int) % 8) = ((7 - i % 8 : Nat) : Int) := by omega
      have hst : (v * num xs % num ms + v * num xs % num ms) % num ms = (2 * v * num xs) % num ms := by
        rw [← Nat.add_mod, ← Nat.two_mul, Nat.mul_assoc]
      rw [hst] at HAD
      have HZ := Lib.hid hz
      have HHV := Lib.hid hv
      have hand := and_one_u8 x hxl
      have hcase := Nat.mod_two_eq_zero_or_one x
      clear hk hb hv hz hbit hcell HA hva hvp hnv hx hst hmp
      rcases hcase with hx0 | hx1
      · rw [hx0] at hand
        have HX0 := Lib.hid hx0
        clear hx0
        go_wp2_with fail
        refine HAD.out.mono ?_
        rintro e w1 ⟨g1, rfl, hg1, hb1, k1⟩
        rw [enc_length]
        have cz1 := (k1.cell (p := ⟨b, off + i / 8, none⟩) hbl (fun e => e)).trans cz
        have HB1 := Lib.hid hb1
        have HK1 := Lib.hid (HK.out.none k1)
        have hg2 : w.heap.size ≤ g1 := Nat.le_trans HK.out.size hg1
        clear hb1 k1 cz HAD
        go_wp2_with fail
        go_roundw
        case rel =>
          refine ⟨i + 1, g1, by omega, by go_num, rfl, hg2, ?_, HK1.out⟩
          rw [HBIT.out, HX0.out]
          exact HB1.out
        case measure => first | (simp [intOf]; done) | (simp [intOf]; omega)
      · rw [hx1] at hand
        have HX0 := Lib.hid hx1
        clear hx1
        go_wp2_with fail
        refine HAD.out.mono ?_
        rintro e w1 ⟨g1, rfl, hg1, hb1, k1⟩
        rw [enc_length]
        have cz1 := (k1.cell (p := ⟨b, off + i / 8, none⟩) hbl (fun e => e)).trans cz
        have HK1 := Lib.hid (HK.out.none k1)
        have hmp : 0 < num ms := by have := H1.out; omega
        have hva : 2 * v * num xs % num ms < num ms := Nat.mod_lt _ hmp
        have hvp := num_lt ms
        rw [HML.out] at hvp
        have hnv : num (enc n (2 * v * num xs % num ms)) = 2 * v * num xs % num ms := num_enc_of_lt (by omega)
        have HA := added_any w1 (some ⟨g1, 0, none⟩) A A'' n c c'' n _ xs ms hb1.bytes (HX.out.still HK1.out) (HM.out.still HK1.out) (enc_length _ _) HXL.out HML.out hl hc (by rw [hnv]; exact hva) H1.out
        rw [hnv, Nat.mod_add_mod] at HA
        rw [show 2 * v * num xs + num xs = (2 * v + 1) * num xs by rw [Nat.add_mul, Nat.one_mul]] at HA
        have HAD2 := Lib.hid HA
        clear hb1 k1 cz HAD HA hnv hvp hva hmp
        go_wp2_with fail
        refine HAD2.out.mono ?_
        rintro e w2 ⟨g2, rfl, hg2, hb2, k2⟩
        rw [enc_length]
        have HB2 := Lib.hid hb2
        have hg3 : w.heap.size ≤ g2 := Nat.le_trans HK1.out.size hg2
        have HK2 := Lib.hid (HK1.out.none k2)
        clear hb2 k2 HAD2
        go_wp2_with fail
        go_roundw
        case rel =>
          refine ⟨i + 1, g2, by omega, by go_num, rfl, hg3, ?_, HK2.out⟩
          rw [HBIT.out, HX0.out]
          exact HB2.out
        case measure => first | (simp [intOf]; done) | (simp [intOf]; omega)
    · obtain rfl : i = 8 * ys.length := by omega
      rw [Nat.sub_self, Nat.pow_zero, Nat.div_one] at hv
      subst hv
      have hfin : MadeB (enc n (num ys * num xs % num ms)) w (.returned (.slice (some ⟨g, 0, none⟩) n n)) wr := ⟨g, by rw [enc_length], hg, hb, hk⟩
      have FIN := Lib.hid hfin
      clear hfin hb hk
      go_wp2_with fail
      go_ret
      exact FIN.out

end Go.Proofs.Ytmheoenieaemmaa
