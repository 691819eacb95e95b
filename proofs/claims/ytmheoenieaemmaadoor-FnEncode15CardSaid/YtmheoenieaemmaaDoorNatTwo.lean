/-
  bigmod.Nat: Equal, cmpGeq, assign.
-/
import Derived.Test.YtmheoenieaemmaaDoorNatCmp
namespace Go.Proofs.YtmheoenieaemmaaDoor
open Go.RowKit

theorem val_take_eq (xs ys : List Nat) (hx : Wd xs) (hy : Wd ys) (k : Nat) (hkx : k < xs.length) (hky : k < ys.length) :
    (decide (val (xs.take k) = val (ys.take k)) && decide (xs[k] = ys[k])) = decide (val (xs.take (k + 1)) = val (ys.take (k + 1))) := by
  rw [val_take_succ xs k hkx, val_take_succ ys k hky, Bool.eq_iff_iff, Bool.and_eq_true, decide_eq_true_iff, decide_eq_true_iff, decide_eq_true_iff]
  have h1 := val_lt _ (hx.take k)
  have h2 := val_lt _ (hy.take k)
  rw [List.length_take, Nat.min_eq_left (by omega)] at h1 h2
  constructor
  · rintro ⟨a, b⟩; rw [a, b]
  · intro h
    have e : xs[k] = ys[k] := by
      have a := congrArg (· / Pw k) h
      simp only [Nat.add_mul_div_left _ _ (Pw_pos k), Nat.div_eq_of_lt h1, Nat.div_eq_of_lt h2, Nat.zero_add] at a
      exact a
    rw [e] at h
    exact ⟨by omega, e⟩

theorem equal_any (p b p' b' : Nat) (xs rest ys rest' : List Nat) (w : World) (hx : NatAt w p b xs rest) (hy : NatAt w p' b' ys rest') (hl : xs.length = ys.length) (hn' : ys.length + rest'.length ≤ 1000000) :
    Calls Tryd.prog 92 #[.pointer (some ⟨p, 0, none⟩), .pointer (some ⟨p', 0, none⟩)] w fun e w' =>
      e = .returned (.int .u64 (bitN (decide (val xs = val ys)) : Int)) ∧ Kept NoBlk w w' := by
  have c1 := hx.cell
  have c2 := hy.cell
  have HX := Lib.hid hx
  have HY := Lib.hid hy
  have HL := Lib.hid hl
  have hle : xs.length ≤ ys.length + rest'.length := by omega
  clear hx hy hl
  go_enter Tryd.func92, Tryd.ntmps92
  go_wp2_with fail
  go_loopw [8, 9] (fun ev iv wr => ∃ (k : Nat), k ≤ xs.length ∧ ev = .int .u64 (bitN (decide (val (xs.take k) = val (ys.take k))) : Int) ∧ iv = .int .i64 k ∧ Kept NoBlk w wr) (fun _ i _ => xs.length - (intOf i).toNat)
  case atStart => exact ⟨0, Nat.zero_le _, rfl, rfl, Kept.refl _ _⟩
  case round =>
    obtain ⟨k, hk, rfl, rfl, hkept⟩ := hrel
    by_cases hlt : k < xs.length
    · have hkl : k < ys.length := by have := HL.out; omega
      have cx := (HX.out.still hkept).limb k hlt
      have cy := (HY.out.still hkept).limb k hkl
      have hc := ctEq_bit xs[k] ys[k] (HX.out.2.2.1.get k hlt) (HY.out.2.2.1.get k hkl)
      have ha := bitN_and (decide (val (xs.take k) = val (ys.take k))) (decide (xs[k] = ys[k]))
      rw [val_take_eq xs ys HX.out.2.2.1 HY.out.2.2.1 k hlt hkl] at ha
      have HC := Lib.hid hc
      have HK := Lib.hid hkept
      clear hc hkept
      go_wp2_with fail
      go_quiet ((go_at_call 113; refine Calls.quiet_of_same ((HC.out _).mono fun e w' h => ⟨h.1, h.2.symm⟩)))
      go_wp2_with fail
      go_roundw
      case rel => exact ⟨k + 1, by omega, rfl, by go_num, HK.out.drewN _⟩
      case measure => simp [intOf]; omega
    · obtain rfl : k = xs.length := by omega
      have hl := HL.out
      rw [List.take_of_length_le (Nat.le_refl _), hl, List.take_of_length_le (Nat.le_refl _)]
      have HK := Lib.hid hkept
      clear hkept hl
      go_wp2_with fail
      go_ret
      exact ⟨rfl, HK.out⟩

theorem cmpGeq_any (p b p' b' : Nat) (xs rest ys rest' : List Nat) (w : World) (hx : NatAt w p b xs rest) (hy : NatAt w p' b' ys rest') (hl : xs.length = ys.length) (hn' : ys.length + rest'.length ≤ 1000000) :
    Calls Tryd.prog 83 #[.pointer (some ⟨p, 0, none⟩), .pointer (some ⟨p', 0, none⟩)] w fun e w' =>
      e = .returned (.int .u64 (bitN (decide (val ys ≤ val xs)) : Int)) ∧ Kept NoBlk w w' := by
  have c1 := hx.cell
  have c2 := hy.cell
  have HX := Lib.hid hx
  have HY := Lib.hid hy
  have HL := Lib.hid hl
  have hle : xs.length ≤ ys.length + rest'.length := by omega
  clear hx hy hl
  go_enter Tryd.func83, Tryd.ntmps83
  go_wp2_with fail
  go_loopw [8, 9] (fun cv iv wr => ∃ (k c v : Nat), k ≤ xs.length ∧ cv = .int .u64 c ∧ iv = .int .i64 k ∧ c ≤ 1 ∧ v < Pw k ∧ v + val (ys.take k) = val (xs.take k) + Pw k * c ∧ Kept NoBlk w wr) (fun _ i _ => xs.length - (intOf i).toNat)
  case atStart => exact ⟨0, 0, 0, Nat.zero_le _, rfl, rfl, by omega, Pw_pos 0, by simp [val], Kept.refl _ _⟩
  case round =>
    obtain ⟨k, c, v, hk, rfl, rfl, hc, hvl, hv, hkept⟩ := hrel
    by_cases hlt : k < xs.length
    · have hkl : k < ys.length := by have := HL.out; omega
      have cx := (HX.out.still hkept).limb k hlt
      have cy := (HY.out.still hkept).limb k hkl
      have wx : xs[k] < 18446744073709551616 := HX.out.2.2.1.get k hlt
      have wy : ys[k] < 18446744073709551616 := HY.out.2.2.1.get k hkl
      obtain ⟨s, c', hs, hsl⟩ : ∃ s c', xs[k] + 18446744073709551616 * c' = s + ys[k] + c ∧ s < 18446744073709551616 := ⟨(xs[k] + 18446744073709551616 + 18446744073709551616 - ys[k] - c) % 18446744073709551616, if xs[k] < ys[k] + c then 1 else 0, by split <;> omega, by omega⟩
      have hsub := bitsSub_is xs[k] ys[k] c s c' hc hsl wx wy hs
      have hc' : c' ≤ 1 := by omega
      have hv' : (v + Pw k * s) + val (ys.take (k + 1)) = val (xs.take (k + 1)) + Pw (k + 1) * c' := by
        rw [val_take_succ xs k hlt, val_take_succ ys k hkl, Pw_succ]
        have : Pw k * xs[k] + Pw k * (18446744073709551616 * c') = Pw k * s + Pw k * ys[k] + Pw k * c := by
          rw [← Nat.mul_add, ← Nat.mul_add, ← Nat.mul_add, hs]
        rw [Nat.mul_comm 18446744073709551616 (Pw k), Nat.mul_assoc]; omega
      have hvl' : v + Pw k * s < Pw (k + 1) := by
        rw [Pw_succ]
        have := Nat.mul_le_mul_left (Pw k) (show s ≤ 18446744073709551615 by omega)
        omega
      have HSUB := Lib.hid hsub
      have HV := Lib.hid hv'
      have HVL := Lib.hid hvl'
      have HK := Lib.hid hkept
      clear hsub hv' hvl' hkept hs hv hvl
      go_wp2_with fail
      go_quiet ((go_at_call 107; refine Calls.quiet_of_same ((HSUB.out _).mono fun e w' h => ⟨h.1, h.2.symm⟩)))
      go_wp2_with fail
      go_roundw
      case rel => exact ⟨k + 1, c', _, by omega, rfl, by go_num, hc', HVL.out, HV.out, HK.out.drewN _⟩
      case measure => simp [intOf]; omega
    · obtain rfl : k = xs.length := by omega
      have hl := HL.out
      rw [List.take_of_length_le (Nat.le_refl _), hl, List.take_of_length_le (Nat.le_refl _)] at hv
      have hn := not_is c hc
      have hxl := val_lt xs HX.out.2.2.1
      rw [hl] at hxl hvl
      have he : 1 - c = bitN (decide (val ys ≤ val xs)) := by
        have : c = 0 ∨ c = 1 := by omega
        rcases this with rfl | rfl
        · rw [decide_eq_true (by omega)]; rfl
        · rw [decide_eq_false (by omega)]; rfl
      rw [he] at hn
      have HN := Lib.hid hn
      have HK := Lib.hid hkept
      clear hkept hl hn he hxl hv hvl
      go_wp2_with fail
      refine (HN.out _).mono ?_
      rintro e w' ⟨rfl, rfl⟩
      go_wp2_with fail
      go_ret
      exact ⟨rfl, HK.out⟩

theorem mask_step (c x y : Nat) (hc : c ≤ 1) (hx : x < 18446744073709551616) (hy : y < 18446744073709551616) :
    bits .xor .u64 (x : Int) (y : Int) = ((x ^^^ y : Nat) : Int) ∧ bits .and .u64 (maskOf c : Int) ((x ^^^ y : Nat) : Int) = ((if c = 1 then x ^^^ y else 0 : Nat) : Int) ∧
    bits .xor .u64 (x : Int) ((if c = 1 then x ^^^ y else 0 : Nat) : Int) = ((if c = 1 then y else x : Nat) : Int) := by
  have hxy : x ^^^ y < 18446744073709551616 := Nat.xor_lt_two_pow (n := 64) (by omega) (by omega)
  refine ⟨bits_xor_u64_nat x y hx hy, ?_, ?_⟩
  · rw [bits_and_u64_nat _ _ (by unfold maskOf; omega) hxy]
    have : c = 0 ∨ c = 1 := by omega
    rcases this with rfl | rfl
    · simp [maskOf]
    · rw [if_pos rfl, maskOf, Nat.one_mul, Nat.and_comm, show (18446744073709551615 : Nat) = 2 ^ 64 - 1 from rfl, Nat.and_two_pow_sub_one_eq_mod, Nat.mod_eq_of_lt (by omega)]
  · have : c = 0 ∨ c = 1 := by omega
    rcases this with rfl | rfl
    · rw [if_neg (by decide), if_neg (by decide), bits_xor_u64_nat x 0 hx (by omega), Nat.xor_zero]
    · rw [if_pos rfl, if_pos rfl, bits_xor_u64_nat x _ hx hxy, ← Nat.xor_assoc, Nat.xor_self, Nat.zero_xor]

/-- The one or the other. -/
def sel (c : Nat) (ys xs : List Nat) : List Nat := if c = 1 then ys else xs
theorem sel_one (ys xs : List Nat) : sel 1 ys xs = ys := rfl
theorem sel_zero (ys xs : List Nat) : sel 0 ys xs = xs := rfl

theorem assign_any (p b p' b' c : Nat) (xs rest ys rest' : List Nat) (w : World) (hc : c ≤ 1) (hx : NatAt w p b xs rest) (hy : NatAt w p' b' ys rest') (hl : xs.length = ys.length) (hb : b ≠ b' ∨ b = b' ∧ xs = ys) (hn' : ys.length + rest'.length ≤ 1000000) :
    Calls Tryd.prog 118 #[.pointer (some ⟨p, 0, none⟩), .int .u64 c, .pointer (some ⟨p', 0, none⟩)] w fun e w' =>
      e = .returned (.pointer (some ⟨p, 0, none⟩)) ∧ NatAt w' p b (sel c ys xs) rest ∧ Kept (OneBlk b) w w' := by
  have c1 := hx.cell
  have c2 := hy.cell
  have HX := Lib.hid hx
  have HY := Lib.hid hy
  have HL := Lib.hid hl
  have HB := Lib.hid hb
  have hle : xs.length ≤ ys.length + rest'.length := by omega
  have hm := ctMask_is c hc w
  have HM := Lib.hid hm
  clear hx hy hl hb hm
  go_enter Tryd.func118, Tryd.ntmps118
  go_wp2_with fail
  refine HM.out.mono ?_
  rintro e w' ⟨rfl, rfl⟩
  clear HM
  go_wp2_with fail
  go_loopw [11] (fun iv wr => ∃ (k : Nat), k ≤ xs.length ∧ iv = .int .i64 k ∧ Mid wr b ((sel c ys xs).take k) (xs ++ rest) k ∧ Kept (OneBlk b) w wr) (fun i _ => xs.length - (intOf i).toNat)
  case atStart => exact ⟨0, Nat.zero_le _, rfl, HX.out.mid, Kept.refl _ _⟩
  case round =>
    obtain ⟨k, hk, rfl, hm, hkept⟩ := hrel
    have hz : ((sel c ys xs).take k).length = k := by
      have := HL.out
      unfold sel
      split <;> simp <;> omega
    by_cases hlt : k < xs.length
    · have cy := other_limb HX.out HY.out HL.out HB.out hm hkept hz hlt
      have cx := hm.cell hz (by simp; omega)
      rw [List.getElem_append_left hlt] at cx
      have hkl : k < ys.length := by have := HL.out; omega
      have wx : xs[k] < 18446744073709551616 := HX.out.2.2.1.get k hlt
      have wy : ys[k] < 18446744073709551616 := HY.out.2.2.1.get k hkl
      obtain ⟨m1, m2, m3⟩ := mask_step c xs[k] ys[k] hc wx wy
      obtain ⟨q, hq⟩ : ∃ q : Nat, (if c = 1 then xs[k] ^^^ ys[k] else 0) = q := ⟨_, rfl⟩
      obtain ⟨r, hr⟩ : ∃ r : Nat, xs[k] ^^^ ys[k] = r := ⟨_, rfl⟩
      obtain ⟨z, hzv⟩ : ∃ z : Nat, (if c = 1 then ys[k] else xs[k]) = z := ⟨_, rfl⟩
      rw [hr] at m1
      rw [hq] at m3
      rw [hq, hr] at m2
      rw [hzv] at m3
      have hf := hm.frozen k
      have hset := fun w' h => hm.set hz (by simp; omega) z (w' := w') h
      have htk : (sel c ys xs).take k ++ [z] = (sel c ys xs).take (k + 1) := by
        rw [← hzv]
        unfold sel
        split
        · rw [List.take_succ_eq_append_getElem hkl]
        · rw [List.take_succ_eq_append_getElem hlt]
      rw [htk] at hset
      have HSET := Lib.hid hset
      have HK := Lib.hid hkept
      clear hset hz hkept hm hq hr hzv htk
      go_wp2_with fail
      go_region
      all_goals go_wp2_with fail
      all_goals
        go_roundw
        case rel => exact ⟨k + 1, by omega, by go_num, (HSET.out _ rfl).drew, (HK.out.setOne _ _).drew⟩
        case measure => simp [intOf]; omega
    · obtain rfl : k = xs.length := by omega
      have htk : (sel c ys xs).take xs.length = sel c ys xs := by
        have := HL.out
        unfold sel
        split
        · rw [this, List.take_of_length_le (Nat.le_refl _)]
        · rw [List.take_of_length_le (Nat.le_refl _)]
      rw [htk] at hm hz
      have hww : Wd (sel c ys xs) := by
        unfold sel
        split
        · exact HY.out.2.2.1
        · exact HX.out.2.2.1
      have HD := Lib.hid (hm.done HX.out hkept hz hww)
      have HK := Lib.hid hkept
      clear hm hkept hz hww htk
      go_wp2_with fail
      go_ret
      exact ⟨rfl, HD.out, HK.out⟩

end Go.Proofs.YtmheoenieaemmaaDoor
