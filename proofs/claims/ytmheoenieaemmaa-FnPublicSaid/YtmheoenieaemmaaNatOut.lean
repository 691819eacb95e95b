/-
  bigmod.Nat.Bytes.
-/
import Derived.Test.YtmheoenieaemmaaTrim
import Derived.Test.YtmheoenieaemmaaTail
namespace Go.Proofs.Ytmheoenieaemmaa
open Go.RowKit

theorem val_drop_head (xs : List Nat) (k : Nat) (hk : k < xs.length) (hw : Wd xs) : val xs / Pw k % 18446744073709551616 = xs[k] := by
  have e : val xs = val (xs.take k) + Pw k * val (xs.drop k) := by
    have := val_append (xs.take k) (xs.drop k)
    rw [List.take_append_drop, List.length_take, Nat.min_eq_left (by omega)] at this
    exact this
  have h1 := val_lt _ (hw.take k)
  rw [List.length_take, Nat.min_eq_left (by omega)] at h1
  rw [e, Nat.add_mul_div_left _ _ (Pw_pos k), Nat.div_eq_of_lt h1, Nat.zero_add, List.drop_eq_getElem_cons hk]
  rw [val]
  have := hw.get k hk
  omega

/-- A byte of the word: what is shifted out. -/
theorem word_shift (v k t : Nat) (ht : t < 8) : v / Pb (8 * k + t) % 256 = v / Pw k % 18446744073709551616 / Pb t % 256 := by
  rw [Pb_add, Pb_eight, ← Nat.div_div_eq_div_mul]
  generalize v / Pw k = u
  have e : (18446744073709551616 : Nat) = Pb 8 := rfl
  rw [e, digit_mod _ _ _ ht]

/-- What is left of the word k behind t bytes. -/
theorem left_zero (v k t S : Nat) (hv : v < Pb S) (h : S ≤ 8 * k + t) : v / Pw k % 18446744073709551616 / Pb t = 0 := by
  have h1 : v / Pw k < Pb t := by
    apply Nat.div_lt_of_lt_mul
    rw [← Pb_eight, ← Pb_add]
    exact Nat.lt_of_lt_of_le hv (Pb_le h)
  exact Nat.div_eq_of_lt (Nat.lt_of_le_of_lt (Nat.mod_le _ _) h1)

/-- The state of the inner loop. -/
def InSt (g S v k t : Nat) (i : Int) (w wr : World) : Prop :=
  (8 * k + t ≤ S ∧ i = (S : Int) - (8 * k + t : Nat) ∧ OutRow g S (8 * k + t) v w wr) ∨ (S ≤ 8 * k ∧ t = 0 ∧ i < 0 ∧ OutRow g S S v w wr)
/-- The state of the outer one. -/
def OutSt (g S v k : Nat) (i : Int) (w wr : World) : Prop :=
  (8 * k ≤ S ∧ i = (S : Int) - (8 * k : Nat) ∧ OutRow g S (8 * k) v w wr) ∨ (S ≤ 8 * k ∧ i < 0 ∧ OutRow g S S v w wr)

set_option maxHeartbeats 1000000 in
theorem bytes_any (p b q pn bn : Nat) (xs rest ms mr : List Nat) (od : Bool) (mi : Nat) (rv : Value) (S : Nat) (w : World) (hx : NatAt w p b xs rest) (hm : ModAt w q pn bn ms mr od mi rv) (hn : ms.length + mr.length ≤ 500000) (hnx : xs.length + rest.length ≤ 500000)
    (hS : (bitLen (val ms) + 7) / 8 = S) (hv : val xs < Pb S) (hSx : S ≤ 8 * xs.length) :
    Calls Try.prog 45 #[.pointer (some ⟨p, 0, none⟩), .pointer (some ⟨q, 0, none⟩)] w fun e w' =>
      e = .returned (.slice (some ⟨w.heap.size, 0, none⟩) S S) ∧ Blk w' w.heap.size 5 ((enc S (val xs)).map B).toArray ∧ Kept NoBlk w w' := by
  have hsz := modSize_any q pn bn ms mr od mi rv w hm (by omega)
  rw [hS] at hsz
  have hSl : S ≤ 4000000 := by
    have := bitLen_val_le ms hm.2.2.2.1
    omega
  have hmk := make_bytes w S (by omega)
  have c1 := hx.cell
  obtain ⟨v, hvv⟩ : ∃ v, val xs = v := ⟨_, rfl⟩
  rw [hvv] at hv ⊢
  have HX := Lib.hid hx
  have HSZ := Lib.hid hsz
  have HV := Lib.hid hv
  have HVV := Lib.hid hvv
  have hp := hx.lt
  have h0 : OutSt w.heap.size S v 0 (S : Int) w (w.alloc (.cells (zeroRow S) 5)) := by
    refine .inl ⟨by omega, by omega, ?_, (Kept.refl _ w).alloc _⟩
    rw [Nat.mul_zero, tailOf_zero]
    exact Blk.new w _ _
  have H0 := Lib.hid h0
  clear hx hm hsz hS hv hvv h0
  go_enter Try.func45, Try.ntmps45
  go_wp2_with fail
  refine HSZ.out.mono ?_
  rintro e w' ⟨rfl, rfl⟩
  clear HSZ
  go_wp2_with fail
  clear hmk c1
  go_loopw [5, 19] (fun iv kv wr => ∃ (i : Int) (k : Nat), k ≤ xs.length ∧ iv = .int .i64 i ∧ kv = .int .i64 (k : Int) ∧ i ≤ 4000000 ∧ -10000000 + (k : Int) * -9 ≤ i ∧ OutSt w.heap.size S v k i w wr) (fun _ kv _ => xs.length - (intOf kv).toNat)
  case atStart => exact ⟨S, 0, Nat.zero_le _, rfl, rfl, by omega, by omega, H0.out⟩
  case round =>
    obtain ⟨i, k, hk, rfl, rfl, hi1, hi2, hO⟩ := hrel
    have hK : Kept NoBlk w wr := by
      rcases hO with h | h
      · exact h.2.2.2
      · exact h.2.2.2
    clear H0
    by_cases hlt : k < xs.length
    · have cx := (HX.out.still hK).limb k hlt
      obtain ⟨x, hx⟩ : ∃ x, xs[k] = x := ⟨_, rfl⟩
      have hxv : v / Pw k % 18446744073709551616 = x := by rw [← hx, ← HVV.out]; exact val_drop_head xs k hlt HX.out.2.2.1
      rw [hx] at cx
      have hkl : (k : Int) < (xs.length : Int) := by omega
      have hin : InSt w.heap.size S v k 0 i w wr := by
        rcases hO with h | h
        · exact .inl h
        · exact .inr ⟨h.1, rfl, h.2.1, h.2.2⟩
      have HIN := Lib.hid hin
      have HXV := Lib.hid hxv
      clear hO hK hx hxv hin
      go_wp2_with fail
      clear cx
      go_loopw [5, 8, 9] (fun iv lv tv wr => ∃ (i : Int) (u t : Nat), t ≤ 8 ∧ iv = .int .i64 i ∧ lv = .int .u64 (u : Int) ∧ tv = .int .i64 (t : Int) ∧ i ≤ 4000000 ∧ -10000000 + (k : Int) * -9 - t ≤ i ∧ u = x / Pb t ∧ InSt w.heap.size S v k t i w wr) (fun _ _ tv _ => 8 - (intOf tv).toNat)
      case atStart => exact ⟨i, x, 0, by omega, rfl, rfl, rfl, hi1, by omega, by rw [Pb_zero, Nat.div_one], HIN.out⟩
      case round =>
        obtain ⟨i, u, t, ht, rfl, rfl, rfl, hi1, hi2, hu, hI⟩ := hrel
        clear HIN
        have HU := Lib.hid hu
        clear hu
        by_cases ht8 : t < 8
        · have ht8i : (t : Int) < 8 := by omega
          by_cases hneg : i ≤ 0
          · -- nothing is left
            have hu0 : u = 0 := by
              rw [HU.out, ← HXV.out]
              apply left_zero v k t S HV.out
              rcases hI with h | h
              · have := h.2.1; omega
              · omega
            subst hu0
            have hrow : OutRow w.heap.size S S v w wr := by
              rcases hI with h | h
              · have h1 := h.2.1
                have e : 8 * k + t = S := by omega
                have := h.2.2
                rw [e] at this
                exact this
              · exact h.2.2.2
            have hs : S ≤ 8 * (k + 1) := by
              rcases hI with h | h
              · have := h.2.1; omega
              · omega
            have HR := Lib.hid hrow
            have hi3 : i - 1 < 0 := by omega
            clear hrow hI HU
            go_wp2_with fail
            go_roundw
            case rel => exact ⟨i - 1, k + 1, by omega, by first | rfl | go_num, by go_num, by omega, by omega, .inr ⟨hs, by omega, HR.out⟩⟩
            case measure => first | (simp [intOf]; done) | (simp [intOf]; omega)
          · obtain ⟨h1, h2, h3⟩ : 8 * k + t < S ∧ i = ((S - 1 - (8 * k + t) + 1 : Nat) : Int) ∧ OutRow w.heap.size S (8 * k + t) v w wr := by
              rcases hI with h | h
              · refine ⟨by have := h.2.1; omega, by have := h.2.1; omega, h.2.2⟩
              · omega
            obtain ⟨d, hd⟩ : ∃ d, S - 1 - (8 * k + t) = d := ⟨_, rfl⟩
            rw [hd] at h2
            subst h2
            have hds : d < S := by omega
            have hcell : ∃ y, wr.cell? ⟨w.heap.size, d, none⟩ = some y := by
              rw [h3.1.cell d, List.getElem?_toArray, List.getElem?_map, List.getElem?_eq_getElem (by rw [tailOf_length]; exact hds)]
              exact ⟨_, rfl⟩
            obtain ⟨y, hy⟩ := hcell
            have fy := h3.1.frozen d
            have hsh := word_shift v k t ht8
            rw [HXV.out, ← HU.out] at hsh
            have hst : ∀ w', w' = wr.setCell ⟨w.heap.size, d, none⟩ (.int .u8 ((u : Int) % 256)) → OutRow w.heap.size S (8 * k + (t + 1)) v w w' := fun w' h =>
              OutRow.step (j := 8 * k + t) h3 h1 (Nat.le_refl _) (c := (u : Int) % 256) (by rw [hsh]; omega) (by rw [hd]; exact h)
            have HST := Lib.hid hst
            have hu2 : u / 256 = x / Pb (t + 1) := by rw [HU.out, Nat.div_div_eq_div_mul, Pb_succ, Nat.mul_comm]
            have HU2 := Lib.hid hu2
            have e1 : ((d + 1 : Nat) : Int) - 1 = (d : Int) := by omega
            have e2 : ¬ (d : Int) < 0 := by omega
            have e3 : (d : Int) < (S : Int) := by omega
            have HD := Lib.hid hd
            clear hI h3 hsh hst hu2 HU hd hneg
            go_wp2_with fail
            go_roundw
            case rel => exact ⟨d, u / 256, t + 1, by omega, by first | rfl | go_num, by first | rfl | go_num, by go_num, by omega, by omega, HU2.out, .inl ⟨by omega, by have := HD.out; omega, HST.out _ rfl⟩⟩
            case measure => first | (simp [intOf]; done) | (simp [intOf]; omega)
        · obtain rfl : t = 8 := by omega
          have hO : OutSt w.heap.size S v (k + 1) i w wr := by
            rcases hI with h | h
            · exact .inl ⟨by omega, by have := h.2.1; omega, h.2.2⟩
            · omega
          have HO := Lib.hid hO
          clear hI hO
          rw [show ((8 : Nat) : Int) = 8 from rfl]
          go_wp2_with fail
          go_roundw
          case rel => exact ⟨i, k + 1, by omega, rfl, by go_num, by omega, by omega, HO.out⟩
          case measure => first | (simp [intOf]; done) | (simp [intOf]; omega)
    · obtain rfl : k = xs.length := by omega
      have hfin : Blk wr w.heap.size 5 ((enc S v).map B).toArray ∧ Kept NoBlk w wr := by
        have hv : v % Pb S = v := Nat.mod_eq_of_lt HV.out
        rcases hO with h | h
        · have e : 8 * xs.length = S := by omega
          have := h.2.2.1
          rw [e] at this
          unfold tailOf at this
          rw [hv] at this
          exact ⟨this, hK⟩
        · have := h.2.2.1
          unfold tailOf at this
          rw [hv] at this
          exact ⟨this, hK⟩
      have FIN := Lib.hid hfin
      clear hO hK hfin
      go_wp2_with fail
      go_ret
      exact ⟨rfl, FIN.out⟩

end Go.Proofs.Ytmheoenieaemmaa
