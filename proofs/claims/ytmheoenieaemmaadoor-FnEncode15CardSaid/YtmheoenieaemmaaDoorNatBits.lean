/-
  bigmod: bitLen, BitLenVarTime, Modulus.BitLen, Modulus.Size, minusInverseModW, trim.
-/
import Derived.Test.YtmheoenieaemmaaDoorNatMod
import Derived.Test.YtmheoenieaemmaaDoorNum
import Derived.Test.YtmheoenieaemmaaDoorMInv
namespace Go.Proofs.YtmheoenieaemmaaDoor
open Go.RowKit

theorem bitLen_any (x : Nat) (w : World) (hx : x < 18446744073709551616) :
    Calls Tryd.prog 105 #[.int .u64 x] w fun e w' => e = .returned (.int .i64 (bitLen x : Int)) ∧ w = w' := by
  have hb : bitLen x ≤ 64 := (bitLen_le x 64).2 (by omega)
  have HB := Lib.hid hb
  clear hx hb
  go_enter Tryd.func105, Tryd.ntmps105
  go_wp2_with fail
  go_loop [0, 3] (fun nv lv => ∃ (k l : Nat), nv = .int .u64 (k : Int) ∧ lv = .int .i64 (l : Int) ∧ l + bitLen k = bitLen x) (fun nv _ => (intOf nv).toNat)
  case atStart => exact ⟨x, 0, rfl, rfl, Nat.zero_add _⟩
  case round =>
    obtain ⟨k, l, rfl, rfl, hl⟩ := hrel
    by_cases hk : k = 0
    · subst hk
      rw [bitLen_zero, Nat.add_zero] at hl
      subst hl
      go_wp2_with fail
      go_ret
      exact ⟨rfl, rfl⟩
    · have hn : ((k : Int) != 0) = true := by rw [bne_iff_ne]; omega
      have hh := bitLen_half k (by omega)
      have hl64 : l ≤ 64 := by have := HB.out; omega
      have HH : Hid (l + 1 + bitLen (k / 2) = bitLen x) := Lib.hid (by omega)
      clear hl hh
      go_wp2_with fail
      go_round
      case rel => exact ⟨k / 2, l + 1, by go_num, by go_num, HH.out⟩
      case measure => simp [intOf]; omega

/-- The topmost word that is not nought tells the number's length. -/
theorem bitLen_top (xs : List Nat) (k : Nat) (hk : k < xs.length) (hw : Wd xs) (hz : ∀ j, k < j → (h : j < xs.length) → xs[j] = 0) (hx : xs[k] ≠ 0) : bitLen (val xs) = k * 64 + bitLen xs[k] := by
  have hd : val (xs.drop (k + 1)) = 0 := val_eq_zero.2 (fun y hy => by
    obtain ⟨i, hi, rfl⟩ := List.getElem_of_mem hy
    rw [List.getElem_drop]
    exact hz _ (by omega) _)
  have hv : val xs = val (xs.take (k + 1)) := by
    have e : val xs = val (xs.take (k + 1) ++ xs.drop (k + 1)) := by rw [List.take_append_drop]
    rw [e, val_append, hd, Nat.mul_zero, Nat.add_zero]
  rw [hv, val_take_succ xs k hk]
  have h1 := val_lt _ (hw.take k)
  rw [List.length_take, Nat.min_eq_left (by omega)] at h1
  have e : ∀ m : Nat, bitLen (val (xs.take k) + Pw k * xs[k]) ≤ k * 64 + m ↔ bitLen xs[k] ≤ m := by
    intro m
    rw [bitLen_le, bitLen_le, Nat.pow_add, Nat.mul_comm k 64, Nat.pow_mul, show (2 ^ 64) ^ k = Pw k from rfl]
    constructor
    · intro h
      apply Classical.byContradiction
      intro hc
      have := Nat.mul_le_mul_left (Pw k) (show 2 ^ m ≤ xs[k] by omega)
      omega
    · intro h
      have := Nat.mul_le_mul_left (Pw k) (show xs[k] + 1 ≤ 2 ^ m by omega)
      rw [Nat.mul_add, Nat.mul_one] at this
      omega
  have p1 : 1 ≤ xs[k] := by omega
  have a := (e (bitLen xs[k])).2 (Nat.le_refl _)
  have b : k * 64 < bitLen (val (xs.take k) + Pw k * xs[k]) := by
    apply Classical.byContradiction
    intro hc
    have := (e 0).1 (by omega)
    have := (bitLen_le xs[k] 0).1 this
    simp at this; omega
  have c := (e (bitLen (val (xs.take k) + Pw k * xs[k]) - k * 64)).1 (by omega)
  omega

theorem bitLenVar_any (p b : Nat) (xs rest : List Nat) (w : World) (hx : NatAt w p b xs rest) (hn : xs.length + rest.length ≤ 1000000) :
    Calls Tryd.prog 77 #[.pointer (some ⟨p, 0, none⟩)] w fun e w' => e = .returned (.int .i64 (bitLen (val xs) : Int)) ∧ w = w' := by
  have c1 := hx.cell
  have HX := Lib.hid hx
  have hle : (xs.length : Int) ≤ (xs.length : Int) + (rest.length : Int) := by omega
  clear hx
  go_enter Tryd.func77, Tryd.ntmps77
  go_wp2_with fail
  go_loop [5] (fun iv => ∃ (k : Nat), k ≤ xs.length ∧ iv = .int .i64 ((k : Int) - 1) ∧ ∀ j, k ≤ j → (h : j < xs.length) → xs[j] = 0) (fun iv => (intOf iv + 1).toNat)
  case atStart => exact ⟨xs.length, Nat.le_refl _, rfl, fun j h1 h2 => by omega⟩
  case round =>
    obtain ⟨k, hk, rfl, hz⟩ := hrel
    have HZ := Lib.hid hz
    clear hz
    rcases Nat.eq_zero_or_pos k with h0 | h0
    · subst h0
      have hv : val xs = 0 := val_eq_zero.2 (fun y hy => by
        obtain ⟨i, hi, rfl⟩ := List.getElem_of_mem hy
        exact HZ.out i (Nat.zero_le _) hi)
      have HV := Lib.hid hv
      clear hv
      have hneg : ¬ (0 : Int) ≤ ((0 : Nat) : Int) - 1 := by omega
      go_wp2_with fail
      go_ret
      exact ⟨by rw [HV.out]; rfl, rfl⟩
    · obtain ⟨j, rfl⟩ : ∃ j, k = j + 1 := ⟨k - 1, by omega⟩
      have cx := HX.out.limb j (by omega)
      have ej : ((j + 1 : Nat) : Int) - 1 = (j : Int) := by omega
      obtain ⟨x, hx⟩ : ∃ x, xs[j] = x := ⟨_, rfl⟩
      rw [hx] at cx
      have hxw : x < 18446744073709551616 := by rw [← hx]; exact HX.out.2.2.1.get j (by omega)
      by_cases hx0 : x = 0
      · subst hx0
        have hz2 : ∀ i, j ≤ i → (h : i < xs.length) → xs[i] = 0 := fun i h1 h2 => by
          rcases Nat.eq_or_lt_of_le h1 with rfl | h1
          · exact hx
          · exact HZ.out i h1 h2
        have HZ2 := Lib.hid hz2
        clear hz2 hx
        rw [ej]
        go_wp2_with fail
        go_round
        case rel => exact ⟨j, by omega, rfl, HZ2.out⟩
        case measure => simp [intOf]
      · have hb := bitLen_top xs j (by omega) HX.out.2.2.1 (fun i h1 h2 => HZ.out i h1 h2) (by rw [hx]; exact hx0)
        rw [hx] at hb
        have hn0 : ((x : Int) != 0) = true := by rw [bne_iff_ne]; omega
        have h64 : bitLen x ≤ 64 := (bitLen_le x 64).2 (by omega)
        have HBL := Lib.hid (bitLen_any x w hxw)
        have HB := Lib.hid hb
        have hj : j < 1000000 := by omega
        clear hb hx
        rw [ej]
        go_wp2_with fail
        refine HBL.out.mono ?_
        rintro e w' ⟨rfl, rfl⟩
        go_wp2_with fail
        go_ret
        exact ⟨by rw [HB.out]; go_num, rfl⟩

theorem modBitLen_any (q pn bn : Nat) (ms mr : List Nat) (od : Bool) (mi : Nat) (rv : Value) (w : World) (hm : ModAt w q pn bn ms mr od mi rv) (hn : ms.length + mr.length ≤ 1000000) :
    Calls Tryd.prog 53 #[.pointer (some ⟨q, 0, none⟩)] w fun e w' => e = .returned (.int .i64 (bitLen (val ms) : Int)) ∧ w = w' := by
  have c1 := hm.ptr
  have HB := Lib.hid (bitLenVar_any pn bn ms mr w hm.2 hn)
  clear hm
  go_enter Tryd.func53, Tryd.ntmps53
  go_wp2_with fail
  refine HB.out.mono ?_
  rintro e w' ⟨rfl, rfl⟩
  go_wp2_with fail
  go_ret
  exact ⟨rfl, rfl⟩

theorem bitLen_val_le (xs : List Nat) (hw : Wd xs) : bitLen (val xs) ≤ 64 * xs.length := by
  have := val_lt xs hw
  rw [bitLen_le, Nat.pow_mul]
  exact this

theorem modSize_any (q pn bn : Nat) (ms mr : List Nat) (od : Bool) (mi : Nat) (rv : Value) (w : World) (hm : ModAt w q pn bn ms mr od mi rv) (hn : ms.length + mr.length ≤ 1000000) :
    Calls Tryd.prog 100 #[.pointer (some ⟨q, 0, none⟩)] w fun e w' => e = .returned (.int .i64 (((bitLen (val ms) + 7) / 8 : Nat) : Int)) ∧ w = w' := by
  have HB := Lib.hid (modBitLen_any q pn bn ms mr od mi rv w hm hn)
  have hb := bitLen_val_le ms hm.2.2.2.1
  obtain ⟨l, hl⟩ : ∃ l, bitLen (val ms) = l := ⟨_, rfl⟩
  rw [hl] at HB hb ⊢
  have hd : ((l : Int) + 7).tdiv 8 = (((l + 7) / 8 : Nat) : Int) := by rw [Int.tdiv_eq_ediv_of_nonneg (by omega)]; omega
  clear hm hl
  go_enter Tryd.func100, Tryd.ntmps100
  go_wp2_with fail
  refine HB.out.mono ?_
  rintro e w' ⟨rfl, rfl⟩
  go_wp2_with fail
  go_ret
  exact ⟨by go_num, rfl⟩

end Go.Proofs.YtmheoenieaemmaaDoor
