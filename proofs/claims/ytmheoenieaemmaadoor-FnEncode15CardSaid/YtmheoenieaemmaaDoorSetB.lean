/-
  bigmod.Nat.setBytes.
-/
import Derived.Test.YtmheoenieaemmaaDoorBeU
namespace Go.Proofs.YtmheoenieaemmaaDoor
open Go.RowKit

theorem val_set (xs : List Nat) (k v : Nat) (hk : k < xs.length) : val (xs.set k v) + Pw k * xs[k] = val xs + Pw k * v := by
  induction xs generalizing k with
  | nil => simp at hk
  | cons x xs ih =>
    cases k with
    | zero => simp only [List.set_cons_zero, val, Pw_zero, List.getElem_cons_zero]; omega
    | succ k =>
      have := ih k (by simpa using hk)
      simp only [List.set_cons_succ, val, List.getElem_cons_succ, Pw_succ]
      rw [Nat.mul_assoc, Nat.mul_assoc, Nat.add_assoc, Nat.add_assoc, ← Nat.mul_add, ← Nat.mul_add, this]

theorem Pb_eight (k : Nat) : Pb (8 * k) = Pw k := by unfold Pb Pw; rw [Nat.pow_mul]
theorem num_drop_one (bs : List UInt8) (i : Nat) (hi : i < bs.length) : num (bs.drop i) = bs[i].toNat * Pb (bs.length - (i + 1)) + num (bs.drop (i + 1)) := by
  rw [List.drop_eq_getElem_cons hi, num, List.length_drop]
theorem num_drop_eight (bs : List UInt8) (i : Nat) (hi : i + 8 ≤ bs.length) : num (bs.drop i) = num [bs[i], bs[i + 1], bs[i + 2], bs[i + 3], bs[i + 4], bs[i + 5], bs[i + 6], bs[i + 7]] * Pb (bs.length - (i + 8)) + num (bs.drop (i + 8)) := by
  have e : bs.drop i = [bs[i], bs[i + 1], bs[i + 2], bs[i + 3], bs[i + 4], bs[i + 5], bs[i + 6], bs[i + 7]] ++ bs.drop (i + 8) := by
    rw [List.drop_eq_getElem_cons (by omega), List.drop_eq_getElem_cons (by omega), List.drop_eq_getElem_cons (by omega), List.drop_eq_getElem_cons (by omega), List.drop_eq_getElem_cons (by omega), List.drop_eq_getElem_cons (by omega), List.drop_eq_getElem_cons (by omega), List.drop_eq_getElem_cons (by omega)]
    rfl
  rw [e, num_append, List.length_drop]

/-- Bytes and words never share a block. -/
theorem NatAt.noBytes {w : World} {p b ba off : Nat} {xs rest : List Nat} (h : NatAt w p b xs rest) {x : UInt8} (hc : w.cell? ⟨ba, off, none⟩ = some (.int .u8 (x.toNat : Int))) : ba ≠ b := by
  rintro rfl
  rw [h.2.1.cell] at hc
  rw [List.getElem?_toArray, List.getElem?_map] at hc
  cases h2 : (xs ++ rest)[off]? with
  | none => rw [h2] at hc; cases hc
  | some y => rw [h2] at hc; simp [U] at hc

/-- A new error. -/
def IsErr (v : Value) : Prop := ∃ a, v = .iface 148 (.pointer (some a))

theorem errNew_any (s : ByteArray) (w : World) : Calls Tryd.prog 74 #[.string s] w fun e w' => e = .returned (.iface 148 (.pointer (some ⟨w.heap.size, 0, none⟩))) ∧ Kept NoBlk w w' := by
  go_enter Tryd.func74, Tryd.ntmps74
  go_wp2_with fail
  go_ret
  exact ⟨rfl, (Kept.refl _ w).alloc _⟩

/-- The state of the loops: the bytes from i on are taken in, the words from k on are nought. -/
def SB (p b n : Nat) (bs : List UInt8) (rest : List Nat) (w : World) (k i : Nat) (xs : List Nat) (wr : World) : Prop :=
  xs.length = n ∧ NatAt wr p b xs rest ∧ val xs = num (bs.drop i) ∧ (∀ j, k ≤ j → (h : j < xs.length) → xs[j] = 0) ∧ Kept (OneBlk b) w wr

/-- What setBytes leaves: the number, where there is room. -/
def SetB (p b n : Nat) (bs : List UInt8) (rest : List Nat) (w : World) (e : Ending) (w' : World) : Prop :=
  ∃ (v : Value) (xs : List Nat), e = .returned v ∧ xs.length = n ∧ NatAt w' p b xs rest ∧ Kept (OneBlk b) w w' ∧ (bs.length ≤ 8 * n → v = .nilIface ∧ val xs = num bs) ∧ (8 * n < bs.length → IsErr v)

theorem SB.word {p b n k j : Nat} {bs : List UInt8} {rest xs : List Nat} {w wr w' : World} (h : SB p b n bs rest w k (j + 8) xs wr) (hk : k < n) (hi : j + 8 + 8 * k = bs.length) {v : Nat}
    (hv : num [bs[j], bs[j + 1], bs[j + 2], bs[j + 3], bs[j + 4], bs[j + 5], bs[j + 6], bs[j + 7]] = v) (q : Nat) (hw : w' = (wr.drewN q).setCell ⟨b, k, none⟩ (.int .u64 (v : Int))) : SB p b n bs rest w (k + 1) j (xs.set k v) w' := by
  obtain ⟨h1, h2, h3, h4, h5⟩ := h
  have hvl : v < 18446744073709551616 := by
    have := num_lt [bs[j], bs[j + 1], bs[j + 2], bs[j + 3], bs[j + 4], bs[j + 5], bs[j + 6], bs[j + 7]]
    rw [hv] at this
    simpa [Pb] using this
  subst hw
  refine ⟨by rw [List.length_set]; exact h1, (h2.drewN q).setLimb k v (by omega) hvl, ?_, fun i hi1 hi2 => ?_, (h5.drewN q).setOne _ _⟩
  · have := val_set xs k v (by omega)
    rw [h4 k (Nat.le_refl _) (by omega), Nat.mul_zero, Nat.add_zero] at this
    rw [this, h3, num_drop_eight bs j (by omega), hv, show bs.length - (j + 8) = 8 * k by omega, Pb_eight, Nat.mul_comm v]
    omega
  · rw [List.getElem_set_ne (by omega)]
    exact h4 i (by omega) _

/-- The state of the second loop: t bytes of the top word are taken in. -/
def SB2 (p b n : Nat) (bs : List UInt8) (rest : List Nat) (w : World) (k i t : Nat) (xs : List Nat) (wr : World) : Prop :=
  xs.length = n ∧ NatAt wr p b xs rest ∧ val xs = num (bs.drop i) ∧ (∃ h : k < xs.length, xs[k] < 2 ^ (8 * t)) ∧ Kept (OneBlk b) w wr

theorem SB2.byte {p b n k i t : Nat} {bs : List UInt8} {rest xs : List Nat} {w wr w' : World} (h : SB2 p b n bs rest w k (i + 1) t xs wr) (hi : i + 1 + t + 8 * k = bs.length) (ht : t < 8) {y z : Nat} (hy : xs[k]? = some y)
    (hz : z = y + bs[i].toNat * 2 ^ (8 * t)) (hw : ∃ q, w' = ((wr.setCell ⟨b, k, none⟩ (.int .u64 (z : Int)))).drewN q) : SB2 p b n bs rest w k i (t + 1) (xs.set k z) w' := by
  obtain ⟨h1, h2, h3, ⟨h4, h4'⟩, h5⟩ := h
  obtain ⟨q, rfl⟩ := hw
  have hyy : y = xs[k] := by rw [List.getElem?_eq_getElem h4] at hy; exact (Option.some.inj hy).symm
  subst hyy
  have hx := bs[i].toNat_lt
  have hzl : z < 2 ^ (8 * (t + 1)) := by
    rw [Nat.mul_add, Nat.pow_add, hz]
    have := Nat.mul_le_mul_right (2 ^ (8 * t)) (show bs[i].toNat ≤ 255 by omega)
    omega
  have hz64 : z < 18446744073709551616 := Nat.lt_of_lt_of_le hzl (Nat.pow_le_pow_right (n := 2) (by decide) (show 8 * (t + 1) ≤ 64 by omega))
  refine ⟨by rw [List.length_set]; exact h1, (h2.setLimb k z h4 hz64).drewN q, ?_, ⟨by rw [List.length_set]; exact h4, by rw [List.getElem_set_self]; exact hzl⟩, (h5.setOne _ _).drewN q⟩
  have := val_set xs k z h4
  rw [num_drop_one bs i (by omega), ← h3, show bs.length - (i + 1) = 8 * k + t by omega, Pb_add, Pb_eight, Pb_two]
  have hm : Pw k * z = Pw k * xs[k] + Pw k * (bs[i].toNat * 2 ^ (8 * t)) := by rw [hz, Nat.mul_add]
  have e : bs[i].toNat * (Pw k * 2 ^ (8 * t)) = Pw k * (bs[i].toNat * 2 ^ (8 * t)) := Nat.mul_left_comm _ _ _
  omega

theorem or_byte (x : UInt8) (y t z : Nat) (hy : y < 2 ^ (8 * t)) (ht : t < 8) (hz : z = y + x.toNat * 2 ^ (8 * t)) : bits .or .u64 (y : Int) (IntKind.u64.wrap (IntKind.u64.wrap (x.toNat : Int) * 2 ^ (8 * t))) = (z : Int) := by
  have hx := x.toNat_lt
  have e1 : IntKind.u64.wrap (x.toNat : Int) = (x.toNat : Int) := by rw [IntKind.wrap_u64]; omega
  have e2 : (x.toNat : Int) * 2 ^ (8 * t) = ((x.toNat * 2 ^ (8 * t) : Nat) : Int) := by rw [Int.natCast_mul, Int.natCast_pow]; rfl
  have h1 : x.toNat * 2 ^ (8 * t) < 18446744073709551616 := by
    have a := Nat.mul_le_mul_right (2 ^ (8 * t)) (show x.toNat ≤ 255 by omega)
    have b : 2 ^ (8 * t + 8) ≤ 18446744073709551616 := Nat.pow_le_pow_right (n := 2) (by decide) (show 8 * t + 8 ≤ 64 by omega)
    have c := Nat.pow_pos (n := 8 * t) (show 0 < 2 by decide)
    rw [Nat.pow_add] at b
    omega
  have h2 : y < 18446744073709551616 := Nat.lt_of_lt_of_le hy (Nat.pow_le_pow_right (n := 2) (by decide) (show 8 * t ≤ 64 by omega))
  have e3 : IntKind.u64.wrap ((x.toNat * 2 ^ (8 * t) : Nat) : Int) = ((x.toNat * 2 ^ (8 * t) : Nat) : Int) := by rw [IntKind.wrap_u64]; omega
  rw [e1, e2, e3, bits_or_u64_nat _ _ h2 h1, or_sum _ _ _ hy, hz]

set_option maxHeartbeats 1000000 in
theorem setBytes_any (p b n : Nat) (rest : List Nat) (A : Option Addr) (cap : Nat) (bs : List UInt8) (w : World) (hx : NatAt w p b (noughts n) rest) (hb : BytesAt w A bs) (hn : n + rest.length ≤ 1000000) (hc : bs.length ≤ cap) (hL : bs.length ≤ 4294967296) :
    Calls Tryd.prog 82 #[.pointer (some ⟨p, 0, none⟩), .slice A bs.length cap] w (SetB p b n bs rest w) := by
  have hst : SB p b n bs rest w 0 bs.length (noughts n) w := ⟨noughts_length n, hx, by rw [val_noughts, List.drop_length]; rfl, fun j _ h => by simp [noughts], Kept.refl _ _⟩
  have HX0 := Lib.hid hx
  have HST := Lib.hid hst
  have HB := Lib.hid hb
  clear hst hx hb
  go_enter Tryd.func82, Tryd.ntmps82
  go_wp2_with fail
  go_loopw [5, 6] (fun iv kv wr => ∃ (i k : Nat) (xs : List Nat), k ≤ n ∧ iv = .int .i64 (i : Int) ∧ kv = .int .i64 (k : Int) ∧ i + 8 * k = bs.length ∧ SB p b n bs rest w k i xs wr) (fun iv _ _ => (intOf iv).toNat)
  case atStart => exact ⟨bs.length, 0, _, Nat.zero_le _, rfl, rfl, by omega, HST.out⟩
  case round =>
    obtain ⟨i, k, xs, hk, rfl, rfl, hi, hS⟩ := hrel
    have c1 := hS.2.1.cell
    rw [hS.1] at c1
    have HS := Lib.hid hS
    clear hS
    rcases Nat.lt_or_ge k n with hkn | hkn
    · by_cases hi8 : 8 ≤ i
      · obtain ⟨j, rfl⟩ : ∃ j, i = j + 8 := ⟨i - 8, by omega⟩
        obtain ⟨ba, off, rfl, hbl, hcell⟩ := HB.out.at_ (k := 0) (by omega)
        have hjl : j + 8 ≤ bs.length := by omega
        have hbab : ba ≠ b := HX0.out.noBytes (hcell 0 bs[0] (List.getElem?_eq_getElem (by omega)))
        have g : ∀ m, (h : j + m < bs.length) → wr.cell? ⟨ba, off + j + m, none⟩ = some (.int .u8 (bs[j + m].toNat : Int)) := fun m h => by
          rw [Nat.add_assoc]
          exact (HS.out.2.2.2.2.cell (p := ⟨ba, off + (j + m), none⟩) hbl hbab).trans (hcell (j + m) _ (List.getElem?_eq_getElem h))
        obtain ⟨v, hv⟩ : ∃ v, num [bs[j], bs[j + 1], bs[j + 2], bs[j + 3], bs[j + 4], bs[j + 5], bs[j + 6], bs[j + 7]] = v := ⟨_, rfl⟩
        have m1 : ∀ nq, _ := fun nq => beUint_any ba (off + j) 8 (cap - j) _ _ _ _ _ _ _ _ (wr.drewN nq) (Nat.le_refl _) (by omega) (g 0 (by omega)) (g 1 (by omega)) (g 2 (by omega)) (g 3 (by omega)) (g 4 (by omega)) (g 5 (by omega)) (g 6 (by omega)) (g 7 (by omega))
        simp only [Nat.add_zero] at m1
        rw [hv] at m1
        have cx := HS.out.2.1.limb k (by have := HS.out.1; omega)
        have fx := HS.out.2.1.2.1.frozen k
        have M1 := Lib.hid m1
        have HV := Lib.hid hv
        have hw0 : ((j + 8 : Nat) : Int) = (j : Int) + 8 := by omega
        have hw1 : IntKind.i64.wrap ((j : Int) + 8 - 8) = (j : Int) := by rw [IntWalk.i64_in _ (by omega)]; omega
        have hw2 : ¬ cap = j := by omega
        have hw3 : j + 8 - j = 8 := by omega
        have hw4 : (j : Int) + 8 ≤ (cap : Int) := by omega
        have hw5 : ((j : Int) + 8).toNat = j + 8 := by omega
        have hw6 : (0 : Int) ≤ (j : Int) + 8 := by omega
        have hw7 : j ≤ j + 8 := by omega
        have hw8 : IntKind.i64.wrap (j : Int) = (j : Int) := IntWalk.i64_in _ (by omega)
        have hw9 : (j : Int) ≤ (j : Int) + 8 := by omega
        clear m1 g hcell hv
        go_wp2_with fail
        go_region_with (go_at_call 106; refine (M1.out _).mono ?_; rintro e w' ⟨rfl, m, rfl⟩)
        all_goals clear hw0 hw1 hw2 hw3 hw4 hw5 hw6 hw7 hw8 hw9
        all_goals go_wp2_with fail
        all_goals
          go_roundw
          case rel => exact ⟨j, k + 1, _, by omega, by first | go_num | (congr 1; omega), by go_num, by omega, HS.out.word hkn hi HV.out _ rfl⟩
          case measure => simp [intOf]; omega
      · have hni : ¬ (8 : Int) ≤ (i : Int) := by omega
        have hki : (k : Int) < (n : Int) := by omega
        have hs2 : SB2 p b n bs rest w k i 0 xs wr := ⟨HS.out.1, HS.out.2.1, HS.out.2.2.1, ⟨by have := HS.out.1; omega, by rw [HS.out.2.2.2.1 k (Nat.le_refl _) (by have := HS.out.1; omega)]; decide⟩, HS.out.2.2.2.2⟩
        have HS2 := Lib.hid hs2
        clear hs2 HS
        go_wp2_with fail
        go_loopw [5, 7] (fun iv sv wr => ∃ (i' t : Nat) (xs : List Nat), i' + t = i ∧ iv = .int .i64 (i' : Int) ∧ sv = .int .i64 ((8 * t : Nat) : Int) ∧ SB2 p b n bs rest w k i' t xs wr) (fun iv _ _ => (intOf iv).toNat)
        case atStart => exact ⟨i, 0, xs, by omega, rfl, rfl, HS2.out⟩
        case round =>
          obtain ⟨i', t, xs, hit, rfl, rfl, hS⟩ := hrel
          have c1 := hS.2.1.cell
          rw [hS.1] at c1
          have HS := Lib.hid hS
          clear hS
          have hs64 : ((8 * t : Nat) : Int) < 64 := by omega
          rcases Nat.eq_zero_or_pos i' with h0 | h0
          · subst h0
            have hz0 : ¬ (0 : Int) < ((0 : Nat) : Int) := by omega
            go_wp2_with fail
            go_ret
            exact ⟨_, xs, rfl, HS.out.1, HS.out.2.1, HS.out.2.2.2.2, fun _ => ⟨rfl, HS.out.2.2.1⟩, fun h => by omega⟩
          · obtain ⟨j, rfl⟩ : ∃ j, i' = j + 1 := ⟨i' - 1, by omega⟩
            obtain ⟨ba, off, rfl, hbl, hcell⟩ := HB.out.at_ (k := 0) (by omega)
            have hjl : j < bs.length := by omega
            have hbab : ba ≠ b := HX0.out.noBytes (hcell 0 bs[0] (List.getElem?_eq_getElem (by omega)))
            have cb : wr.cell? ⟨ba, off + j, none⟩ = some (.int .u8 (bs[j].toNat : Int)) := (HS.out.2.2.2.2.cell (p := ⟨ba, off + j, none⟩) hbl hbab).trans (hcell j _ (List.getElem?_eq_getElem hjl))
            obtain ⟨hkx, hylt⟩ := HS.out.2.2.2.1
            have cx := HS.out.2.1.limb k hkx
            have fx := HS.out.2.1.2.1.frozen k
            obtain ⟨y, hy⟩ : ∃ y, xs[k] = y := ⟨_, rfl⟩
            rw [hy] at cx hylt
            have hpos : (0 : Int) < ((j + 1 : Nat) : Int) := by omega
            have hw0 : ((j + 1 : Nat) : Int) = (j : Int) + 1 := by omega
            have hw1 : IntKind.i64.wrap ((j : Int) + 1 - 1) = (j : Int) := by rw [IntWalk.i64_in _ (by omega)]; omega
            have hw2 : IntKind.i64.wrap (j : Int) = (j : Int) := IntWalk.i64_in _ (by omega)
            have hw3 : (j : Int) < (bs.length : Int) := by omega
            obtain ⟨z, hz⟩ : ∃ z, z = y + bs[j].toNat * 2 ^ (8 * t) := ⟨_, rfl⟩
            have hor := or_byte bs[j] y t z hylt (by omega) hz
            have HOR := Lib.hid hor
            have HZ := Lib.hid hz
            have HY : Hid (xs[k]? = some y) := Lib.hid (by rw [List.getElem?_eq_getElem hkx, hy])
            clear hcell hy hor hz hylt
            go_wp2_with fail
            go_region
            all_goals clear hw0 hw1 hw2 hw3
            all_goals go_wp2_with fail
            all_goals
              go_roundw
              case rel => exact ⟨j, t + 1, _, by omega, by first | go_num | (congr 1; omega), by first | go_num | (congr 1; omega), HS.out.byte (by omega) (by omega) HY.out HZ.out ⟨1, by rw [HOR.out]; rfl⟩⟩
              case measure => first | (simp [intOf]; done) | (simp [intOf]; omega)
    · obtain rfl : k = n := by omega
      rcases Nat.eq_zero_or_pos i with h0 | h0
      · subst h0
        go_wp2_with fail
        go_loopw [5, 7] (fun iv sv wr' => iv = .int .i64 0 ∧ sv = .int .i64 0 ∧ wr' = wr) (fun iv _ _ => (intOf iv).toNat)
        case atStart => exact ⟨rfl, rfl, rfl⟩
        case round =>
          obtain ⟨rfl, rfl, rfl⟩ := hrel
          go_wp2_with fail
          go_ret
          exact ⟨_, xs, rfl, HS.out.1, HS.out.2.1, HS.out.2.2.2.2, fun _ => ⟨rfl, HS.out.2.2.1⟩, fun h => by omega⟩
      · have hpos : (0 : Int) < (i : Int) := by omega
        go_wp2_with fail
        go_loopw [5, 7] (fun iv sv wr' => iv = .int .i64 (i : Int) ∧ sv = .int .i64 0 ∧ wr' = wr) (fun iv _ _ => (intOf iv).toNat)
        case atStart => exact ⟨rfl, rfl, rfl⟩
        case round =>
          obtain ⟨rfl, rfl, rfl⟩ := hrel
          go_wp2_with fail
          refine (errNew_any _ _).mono ?_
          rintro e w' ⟨rfl, k1⟩
          have K1 := Lib.hid k1
          clear k1
          go_wp2_with fail
          go_ret
          exact ⟨_, xs, rfl, HS.out.1, HS.out.2.1.still K1.out, HS.out.2.2.2.2.step K1.out (fun _ _ e => e.elim), fun h => by omega, fun _ => ⟨_, rfl⟩⟩

end Go.Proofs.YtmheoenieaemmaaDoor
