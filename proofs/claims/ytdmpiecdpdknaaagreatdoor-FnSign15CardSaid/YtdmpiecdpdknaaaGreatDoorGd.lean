/-
  bigmod: bitLen, BitLenVarTime, Modulus.BitLen, Modulus.Size, minusInverseModW, trim.
  bigmod.minusInverseModW.
  bigmod: beUint32, beUint64, bigEndianUint.
  bigmod.Nat.setBytes.
  bigmod.Nat: trim, resetToBytes.
-/
import Derived.Test.YtdmpiecdpdknaaaGreatDoorGb
import Derived.Test.YtdmpiecdpdknaaaGreatDoorGk
import Derived.Test.YtdmpiecdpdknaaaGreatDoorGc
import Derived.Laws.BitsAllLaws
namespace Go.Proofs.YtdmpiecdpdknaaaGreatDoor
open Go.RowKit

theorem bitLen_any (x : Nat) (w : World) (hx : x < 18446744073709551616) :
    Calls Tryz.prog 105 #[.int .u64 x] w fun e w' => e = .returned (.int .i64 (bitLen x : Int)) ∧ w = w' := by
  have hb : bitLen x ≤ 64 := (bitLen_le x 64).2 (by omega)
  have HB := Lib.hid hb
  clear hx hb
  go_enter Tryz.func105, Tryz.ntmps105
  go_wp2_with fail
  go_loop [0, 3] (fun nv lv => ∃ (k l : Nat), nv = .int .u64 (k : Int) ∧ lv = .int .i64 (l : Int) ∧ l + bitLen k = bitLen x) (fun nv _ => (intOf nv).toNat)
  case atStart => exact ⟨x, 0, rfl, rfl, Nat.zero_add _⟩
  case round =>
    obtain ⟨k, l, rfl, rfl, hl⟩ := hrel
    by_cases hk : k = 0
    · subst hk
      rw [bitLen_zero, Nat.add_zero] at hl
      subst hl
      go_wp2_with fail
      go_ret
      exact ⟨rfl, rfl⟩
    · have hn : ((k : Int) != 0) = true := by rw [bne_iff_ne]; omega
      have hh := bitLen_half k (by omega)
      have hl64 : l ≤ 64 := by have := HB.out; omega
      have HH : Hid (l + 1 + bitLen (k / 2) = bitLen x) := Lib.hid (by omega)
      clear hl hh
      go_wp2_with fail
      go_round
      case rel => exact ⟨k / 2, l + 1, by go_num, by go_num, HH.out⟩
      case measure => simp [intOf]; omega

/-- The topmost word that is not nought tells the number's length. -/
theorem bitLen_top (xs : List Nat) (k : Nat) (hk : k < xs.length) (hw : Wd xs) (hz : ∀ j, k < j → (h : j < xs.length) → xs[j] = 0) (hx : xs[k] ≠ 0) : bitLen (val xs) = k * 64 + bitLen xs[k] := by
  have hd : val (xs.drop (k + 1)) = 0 := val_eq_zero.2 (fun y hy => by
    obtain ⟨i, hi, rfl⟩ := List.getElem_of_mem hy
    rw [List.getElem_drop]
    exact hz _ (by omega) _)
  have hv : val xs = val (xs.take (k + 1)) := by
    have e : val xs = val (xs.take (k + 1) ++ xs.drop (k + 1)) := by rw [List.take_append_drop]
    rw [e, val_append, hd, Nat.mul_zero, Nat.add_zero]
  rw [hv, val_take_succ xs k hk]
  have h1 := val_lt _ (hw.take k)
  rw [List.length_take, Nat.min_eq_left (by omega)] at h1
  have e : ∀ m : Nat, bitLen (val (xs.take k) + Pw k * xs[k]) ≤ k * 64 + m ↔ bitLen xs[k] ≤ m := by
    intro m
    rw [bitLen_le, bitLen_le, Nat.pow_add, Nat.mul_comm k 64, Nat.pow_mul, show (2 ^ 64) ^ k = Pw k from rfl]
    constructor
    · intro h
      apply Classical.byContradiction
      intro hc
      have := Nat.mul_le_mul_left (Pw k) (show 2 ^ m ≤ xs[k] by omega)
      omega
    · intro h
      have := Nat.mul_le_mul_left (Pw k) (show xs[k] + 1 ≤ 2 ^ m by omega)
      rw [Nat.mul_add, Nat.mul_one] at this
      omega
  have p1 : 1 ≤ xs[k] := by omega
  have a := (e (bitLen xs[k])).2 (Nat.le_refl _)
  have b : k * 64 < bitLen (val (xs.take k) + Pw k * xs[k]) := by
    apply Classical.byContradiction
    intro hc
    have := (e 0).1 (by omega)
    have := (bitLen_le xs[k] 0).1 this
    simp at this; omega
  have c := (e (bitLen (val (xs.take k) + Pw k * xs[k]) - k * 64)).1 (by omega)
  omega

theorem bitLenVar_any (p b : Nat) (xs rest : List Nat) (w : World) (hx : NatAt w p b xs rest) (hn : xs.length + rest.length ≤ 1000000) :
    Calls Tryz.prog 91 #[.pointer (some ⟨p, 0, none⟩)] w fun e w' => e = .returned (.int .i64 (bitLen (val xs) : Int)) ∧ w = w' := by
  have c1 := hx.cell
  have HX := Lib.hid hx
  have hle : (xs.length : Int) ≤ (xs.length : Int) + (rest.length : Int) := by omega
  clear hx
  go_enter Tryz.func91, Tryz.ntmps91
  go_wp2_with fail
  go_loop [5] (fun iv => ∃ (k : Nat), k ≤ xs.length ∧ iv = .int .i64 ((k : Int) - 1) ∧ ∀ j, k ≤ j → (h : j < xs.length) → xs[j] = 0) (fun iv => (intOf iv + 1).toNat)
  case atStart => exact ⟨xs.length, Nat.le_refl _, rfl, fun j h1 h2 => by omega⟩
  case round =>
    obtain ⟨k, hk, rfl, hz⟩ := hrel
    have HZ := Lib.hid hz
    clear hz
    rcases Nat.eq_zero_or_pos k with h0 | h0
    · subst h0
      have hv : val xs = 0 := val_eq_zero.2 (fun y hy => by
        obtain ⟨i, hi, rfl⟩ := List.getElem_of_mem hy
        exact HZ.out i (Nat.zero_le _) hi)
      have HV := Lib.hid hv
      clear hv
      have hneg : ¬ (0 : Int) ≤ ((0 : Nat) : Int) - 1 := by omega
      go_wp2_with fail
      go_ret
      exact ⟨by rw [HV.out]; rfl, rfl⟩
    · obtain ⟨j, rfl⟩ : ∃ j, k = j + 1 := ⟨k - 1, by omega⟩
      have cx := HX.out.limb j (by omega)
      have ej : ((j + 1 : Nat) : Int) - 1 = (j : Int) := by omega
      obtain ⟨x, hx⟩ : ∃ x, xs[j] = x := ⟨_, rfl⟩
      rw [hx] at cx
      have hxw : x < 18446744073709551616 := by rw [← hx]; exact HX.out.2.2.1.get j (by omega)
      by_cases hx0 : x = 0
      · subst hx0
        have hz2 : ∀ i, j ≤ i → (h : i < xs.length) → xs[i] = 0 := fun i h1 h2 => by
          rcases Nat.eq_or_lt_of_le h1 with rfl | h1
          · exact hx
          · exact HZ.out i h1 h2
        have HZ2 := Lib.hid hz2
        clear hz2 hx
        rw [ej]
        go_wp2_with fail
        go_round
        case rel => exact ⟨j, by omega, rfl, HZ2.out⟩
        case measure => simp [intOf]
      · have hb := bitLen_top xs j (by omega) HX.out.2.2.1 (fun i h1 h2 => HZ.out i h1 h2) (by rw [hx]; exact hx0)
        rw [hx] at hb
        have hn0 : ((x : Int) != 0) = true := by rw [bne_iff_ne]; omega
        have h64 : bitLen x ≤ 64 := (bitLen_le x 64).2 (by omega)
        have HBL := Lib.hid (bitLen_any x w hxw)
        have HB := Lib.hid hb
        have hj : j < 1000000 := by omega
        clear hb hx
        rw [ej]
        go_wp2_with fail
        refine HBL.out.mono ?_
        rintro e w' ⟨rfl, rfl⟩
        go_wp2_with fail
        go_ret
        exact ⟨by rw [HB.out]; go_num, rfl⟩

theorem modBitLen_any (q pn bn : Nat) (ms mr : List Nat) (od : Bool) (mi : Nat) (rv : Value) (w : World) (hm : ModAt w q pn bn ms mr od mi rv) (hn : ms.length + mr.length ≤ 1000000) :
    Calls Tryz.prog 76 #[.pointer (some ⟨q, 0, none⟩)] w fun e w' => e = .returned (.int .i64 (bitLen (val ms) : Int)) ∧ w = w' := by
  have c1 := hm.ptr
  have HB := Lib.hid (bitLenVar_any pn bn ms mr w hm.2 hn)
  clear hm
  go_enter Tryz.func76, Tryz.ntmps76
  go_wp2_with fail
  refine HB.out.mono ?_
  rintro e w' ⟨rfl, rfl⟩
  go_wp2_with fail
  go_ret
  exact ⟨rfl, rfl⟩

theorem bitLen_val_le (xs : List Nat) (hw : Wd xs) : bitLen (val xs) ≤ 64 * xs.length := by
  have := val_lt xs hw
  rw [bitLen_le, Nat.pow_mul]
  exact this

theorem modSize_any (q pn bn : Nat) (ms mr : List Nat) (od : Bool) (mi : Nat) (rv : Value) (w : World) (hm : ModAt w q pn bn ms mr od mi rv) (hn : ms.length + mr.length ≤ 1000000) :
    Calls Tryz.prog 75 #[.pointer (some ⟨q, 0, none⟩)] w fun e w' => e = .returned (.int .i64 (((bitLen (val ms) + 7) / 8 : Nat) : Int)) ∧ w = w' := by
  have HB := Lib.hid (modBitLen_any q pn bn ms mr od mi rv w hm hn)
  have hb := bitLen_val_le ms hm.2.2.2.1
  obtain ⟨l, hl⟩ : ∃ l, bitLen (val ms) = l := ⟨_, rfl⟩
  rw [hl] at HB hb ⊢
  have hd : ((l : Int) + 7).tdiv 8 = (((l + 7) / 8 : Nat) : Int) := by rw [Int.tdiv_eq_ediv_of_nonneg (by omega)]; omega
  clear hm hl
  go_enter Tryz.func75, Tryz.ntmps75
  go_wp2_with fail
  refine HB.out.mono ?_
  rintro e w' ⟨rfl, rfl⟩
  go_wp2_with fail
  go_ret
  exact ⟨by go_num, rfl⟩

end Go.Proofs.YtdmpiecdpdknaaaGreatDoor
namespace Go.Proofs.YtdmpiecdpdknaaaGreatDoor
open Go.RowKit

/-- So many bits are right after i rounds. -/
def rightBits (i : Nat) : Nat := min 64 (3 * 2 ^ i)

theorem wrapSub2 (s : Nat) (hs : s < 18446744073709551616) : IntKind.u64.wrap (2 - (s : Int)) = (((2 + 18446744073709551616 - s) % 18446744073709551616 : Nat) : Int) := by
  rw [IntKind.wrap_u64]; omega
theorem wrapNeg (s : Nat) (hs : s < 18446744073709551616) : IntKind.u64.wrap (-(s : Int)) = (((18446744073709551616 - s) % 18446744073709551616 : Nat) : Int) := by
  rw [IntKind.wrap_u64]; omega

theorem minusInv_any (x : Nat) (w : World) (hx : x < 18446744073709551616) (ho : x % 2 = 1) :
    Calls Tryz.prog 81 #[.int .u64 x] w fun e w' => ∃ z : Nat, e = .returned (.int .u64 z) ∧ z < 18446744073709551616 ∧ x * z % 18446744073709551616 = 18446744073709551615 ∧ w = w' := by
  have hst : 2 ^ rightBits 0 ∣ x * x + (2 ^ rightBits 0 - 1) := newton_start x ho
  have HST := Lib.hid hst
  have HX := Lib.hid hx
  clear hst ho hx
  go_enter Tryz.func81, Tryz.ntmps81
  go_wp2_with fail
  go_loop [3, 4] (fun yv iv => ∃ (i y : Nat), i ≤ 5 ∧ yv = .int .u64 (y : Int) ∧ iv = .int .i64 (i : Int) ∧ y < 18446744073709551616 ∧ 2 ^ rightBits i ∣ x * y + (2 ^ rightBits i - 1)) (fun _ iv => 5 - (intOf iv).toNat)
  case atStart => exact ⟨0, x, by omega, rfl, rfl, HX.out, HST.out⟩
  case round =>
    obtain ⟨i, y, hi, rfl, rfl, hy, hd⟩ := hrel
    have HY := Lib.hid hy
    by_cases hlt : i < 5
    · obtain ⟨s, hs⟩ : ∃ s, s = x * y % 18446744073709551616 := ⟨_, rfl⟩
      have hsl : s < 18446744073709551616 := by rw [hs]; exact Nat.mod_lt _ (by decide)
      obtain ⟨d, hdd⟩ : ∃ d, d = (2 + 18446744073709551616 - s) % 18446744073709551616 := ⟨_, rfl⟩
      obtain ⟨y', hy'⟩ : ∃ y', y' = y * d % 18446744073709551616 := ⟨_, rfl⟩
      have h1 : IntKind.u64.wrap ((x : Int) * (y : Int)) = (s : Int) := by rw [Mul64.mulN, Mul64.wrapM, hs]
      have h2 : IntKind.u64.wrap (2 - (s : Int)) = (d : Int) := by rw [wrapSub2 s hsl, hdd]
      have h3 : IntKind.u64.wrap ((y : Int) * (d : Int)) = (y' : Int) := by rw [Mul64.mulN, Mul64.wrapM, hy']
      have hr : rightBits (i + 1) ≤ 2 * rightBits i := by unfold rightBits; rw [Nat.pow_succ]; omega
      have hd2 := newton x y s d y' (rightBits i) (rightBits (i + 1)) hr (by unfold rightBits; omega) hs hdd hy' hd
      have hyl : y' < 18446744073709551616 := by rw [hy']; exact Nat.mod_lt _ (by decide)
      have HD := Lib.hid hd2
      have HYL := Lib.hid hyl
      clear hd hs hdd hy' hr hd2 hyl hsl hy
      go_wp2_with fail
      go_round
      case rel => exact ⟨i + 1, y', by omega, by go_num, by go_num, HYL.out, HD.out⟩
      case measure => simp [intOf]; omega
    · obtain rfl : i = 5 := by omega
      obtain ⟨z, hz⟩ : ∃ z, z = (18446744073709551616 - y) % 18446744073709551616 := ⟨_, rfl⟩
      have h1 : IntKind.u64.wrap (-(y : Int)) = (z : Int) := by rw [wrapNeg y hy, hz]
      have hend := newton_end x y z hy hd hz
      have hzl : z < 18446744073709551616 := by rw [hz]; exact Nat.mod_lt _ (by decide)
      have HE := Lib.hid hend
      have HZ := Lib.hid hzl
      clear hz hd hend hzl hy
      rw [show (((5 : Nat)) : Int) = 5 from rfl]
      go_wp2_with fail
      go_ret
      exact ⟨z, rfl, HZ.out, HE.out, rfl⟩

end Go.Proofs.YtdmpiecdpdknaaaGreatDoor
namespace Go.Proofs.YtdmpiecdpdknaaaGreatDoor
open Go.RowKit

theorem ret_int {k : IntKind} {a b : Int} (h : a = b) : Ending.returned (.int k a) = .returned (.int k b) := by rw [h]

/-- Below a power of 2 'or' is a sum. -/
theorem or_sum (a y k : Nat) (h : a < 2 ^ k) : a ||| y * 2 ^ k = a + y * 2 ^ k := by
  rw [Nat.or_comm, Nat.mul_comm, ← Nat.two_pow_add_eq_or_of_lt h, Nat.add_comm]

theorem or32 (a b : Nat) (ha : a < 4294967296) (hb : b < 4294967296) : bits .or .u32 (a : Int) (b : Int) = ((a ||| b : Nat) : Int) := u32_or_nat a b ha hb

theorem be32_sum (x0 x1 x2 x3 : UInt8) : bits BinOp.or IntKind.u32 (bits BinOp.or IntKind.u32 (bits BinOp.or IntKind.u32 ((x3.toNat : Int) % 4294967296) ((x2.toNat : Int) % 4294967296 * 256 % 4294967296)) ((x1.toNat : Int) % 4294967296 * 65536 % 4294967296)) ((x0.toNat : Int) % 4294967296 * 16777216 % 4294967296) = (num [x0, x1, x2, x3] : Int) := by
  have h0 := x0.toNat_lt
  have h1 := x1.toNat_lt
  have h2 := x2.toNat_lt
  have h3 := x3.toNat_lt
  have e3 : (x3.toNat : Int) % 4294967296 = (x3.toNat : Int) := by omega
  have e2 : (x2.toNat : Int) % 4294967296 * 256 % 4294967296 = ((x2.toNat * 2 ^ 8 : Nat) : Int) := by omega
  have e1 : (x1.toNat : Int) % 4294967296 * 65536 % 4294967296 = ((x1.toNat * 2 ^ 16 : Nat) : Int) := by omega
  have e0 : (x0.toNat : Int) % 4294967296 * 16777216 % 4294967296 = ((x0.toNat * 2 ^ 24 : Nat) : Int) := by omega
  rw [e3, e2, e1, e0, or32 _ _ (by omega) (by omega), or_sum _ _ 8 (by omega), or32 _ _ (by omega) (by omega), or_sum _ _ 16 (by omega), or32 _ _ (by omega) (by omega), or_sum _ _ 24 (by omega)]
  simp only [num, Pb, List.length_cons, List.length_nil]
  omega

theorem be32_any (b off len cap : Nat) (x0 x1 x2 x3 : UInt8) (w : World) (hl : 4 ≤ len) (_hc : len ≤ cap)
    (c0 : w.cell? ⟨b, off, none⟩ = some (.int .u8 (x0.toNat : Int))) (c1 : w.cell? ⟨b, off + 1, none⟩ = some (.int .u8 (x1.toNat : Int))) (c2 : w.cell? ⟨b, off + 2, none⟩ = some (.int .u8 (x2.toNat : Int))) (c3 : w.cell? ⟨b, off + 3, none⟩ = some (.int .u8 (x3.toNat : Int))) :
    Calls Tryz.prog 101 #[.slice (some ⟨b, off, none⟩) len cap] w fun e w' => e = .returned (.int .u32 (num [x0, x1, x2, x3] : Int)) ∧ ∃ m, w' = w.drewN m := by
  have b3 : (3 : Int) < (len : Int) := by omega
  have b2 : (2 : Int) < (len : Int) := by omega
  have b1 : (1 : Int) < (len : Int) := by omega
  have b0 : (0 : Int) < (len : Int) := by omega
  go_enter Tryz.func101, Tryz.ntmps101
  go_wp2_with fail
  go_quiet (fail)
  go_wp2_with fail
  go_ret
  exact ⟨ret_int (be32_sum x0 x1 x2 x3), nq, rfl⟩

theorem be64_any (b off len cap : Nat) (x0 x1 x2 x3 x4 x5 x6 x7 : UInt8) (w : World) (hl : 8 ≤ len) (hc : len ≤ cap)
    (c0 : w.cell? ⟨b, off, none⟩ = some (.int .u8 (x0.toNat : Int))) (c1 : w.cell? ⟨b, off + 1, none⟩ = some (.int .u8 (x1.toNat : Int))) (c2 : w.cell? ⟨b, off + 2, none⟩ = some (.int .u8 (x2.toNat : Int))) (c3 : w.cell? ⟨b, off + 3, none⟩ = some (.int .u8 (x3.toNat : Int)))
    (c4 : w.cell? ⟨b, off + 4, none⟩ = some (.int .u8 (x4.toNat : Int))) (c5 : w.cell? ⟨b, off + 5, none⟩ = some (.int .u8 (x5.toNat : Int))) (c6 : w.cell? ⟨b, off + 6, none⟩ = some (.int .u8 (x6.toNat : Int))) (c7 : w.cell? ⟨b, off + 7, none⟩ = some (.int .u8 (x7.toNat : Int))) :
    Calls Tryz.prog 100 #[.slice (some ⟨b, off, none⟩) len cap] w fun e w' => e = .returned (.int .u64 (num [x0, x1, x2, x3, x4, x5, x6, x7] : Int)) ∧ ∃ m, w' = w.drewN m := by
  have b7 : (7 : Int) < (len : Int) := by omega
  have b4 : (4 : Int) ≤ (len : Int) := by omega
  have b4' : ¬ cap = 4 := by omega
  have m1 : ∀ n, _ := fun n => be32_any b off len cap x0 x1 x2 x3 (w.drewN n) (by omega) hc c0 c1 c2 c3
  have c5' : w.cell? ⟨b, off + 4 + 1, none⟩ = some (.int .u8 (x5.toNat : Int)) := by rw [Nat.add_assoc]; exact c5
  have c6' : w.cell? ⟨b, off + 4 + 2, none⟩ = some (.int .u8 (x6.toNat : Int)) := by rw [Nat.add_assoc]; exact c6
  have c7' : w.cell? ⟨b, off + 4 + 3, none⟩ = some (.int .u8 (x7.toNat : Int)) := by rw [Nat.add_assoc]; exact c7
  have m2 : ∀ n, _ := fun n => be32_any b (off + 4) (len - 4) (cap - 4) x4 x5 x6 x7 (w.drewN n) (by omega) (by omega) c4 c5' c6' c7'
  have M1 := Lib.hid m1
  have M2 := Lib.hid m2
  have hf : IntKind.u64.wrap (IntKind.u64.wrap ((num [x0, x1, x2, x3] : Nat) : Int) * 4294967296) = ((num [x0, x1, x2, x3] * 2 ^ 32 : Nat) : Int) ∧ IntKind.u64.wrap ((num [x4, x5, x6, x7] : Nat) : Int) = ((num [x4, x5, x6, x7] : Nat) : Int) := by
    have h1 := num_lt [x0, x1, x2, x3]
    have h2 := num_lt [x4, x5, x6, x7]
    simp only [Pb, List.length_cons, List.length_nil] at h1 h2
    simp only [IntKind.wrap_u64]
    omega
  have hs : bits .or .u64 ((num [x0, x1, x2, x3] * 2 ^ 32 : Nat) : Int) ((num [x4, x5, x6, x7] : Nat) : Int) = (num [x0, x1, x2, x3, x4, x5, x6, x7] : Int) := by
    have h1 := num_lt [x0, x1, x2, x3]
    have h2 := num_lt [x4, x5, x6, x7]
    simp only [Pb, List.length_cons, List.length_nil] at h1 h2
    rw [bits_or_u64_nat _ _ (by omega) (by omega), Nat.or_comm, or_sum _ _ 32 (by omega)]
    have := num_append [x0, x1, x2, x3] [x4, x5, x6, x7]
    simp only [List.cons_append, List.nil_append, Pb, List.length_cons, List.length_nil] at this
    rw [this]
    omega
  have HF := Lib.hid hf
  have HS := Lib.hid hs
  clear m1 m2 hf hs c0 c1 c2 c3 c4 c5 c6 c5' c6' c7'
  go_enter Tryz.func100, Tryz.ntmps100
  go_wp2_with fail
  go_quiet ((go_at_call 101; first | (with_reducible exact Calls.quiet_of (M1.out _)) | (with_reducible exact Calls.quiet_of (M2.out _))))
  go_wp2_with fail
  go_ret
  exact ⟨ret_int (by rw [HF.out.1, HF.out.2]; exact HS.out), nq, rfl⟩

theorem beUint_any (b off len cap : Nat) (x0 x1 x2 x3 x4 x5 x6 x7 : UInt8) (w : World) (hl : 8 ≤ len) (hc : len ≤ cap)
    (c0 : w.cell? ⟨b, off, none⟩ = some (.int .u8 (x0.toNat : Int))) (c1 : w.cell? ⟨b, off + 1, none⟩ = some (.int .u8 (x1.toNat : Int))) (c2 : w.cell? ⟨b, off + 2, none⟩ = some (.int .u8 (x2.toNat : Int))) (c3 : w.cell? ⟨b, off + 3, none⟩ = some (.int .u8 (x3.toNat : Int)))
    (c4 : w.cell? ⟨b, off + 4, none⟩ = some (.int .u8 (x4.toNat : Int))) (c5 : w.cell? ⟨b, off + 5, none⟩ = some (.int .u8 (x5.toNat : Int))) (c6 : w.cell? ⟨b, off + 6, none⟩ = some (.int .u8 (x6.toNat : Int))) (c7 : w.cell? ⟨b, off + 7, none⟩ = some (.int .u8 (x7.toNat : Int))) :
    Calls Tryz.prog 83 #[.slice (some ⟨b, off, none⟩) len cap] w fun e w' => e = .returned (.int .u64 (num [x0, x1, x2, x3, x4, x5, x6, x7] : Int)) ∧ ∃ m, w' = w.drewN m := by
  have M := Lib.hid (be64_any b off len cap x0 x1 x2 x3 x4 x5 x6 x7 w hl hc c0 c1 c2 c3 c4 c5 c6 c7)
  have hw : IntKind.u64.wrap ((num [x0, x1, x2, x3, x4, x5, x6, x7] : Nat) : Int) = ((num [x0, x1, x2, x3, x4, x5, x6, x7] : Nat) : Int) := by
    have h1 := num_lt [x0, x1, x2, x3, x4, x5, x6, x7]
    simp only [Pb, List.length_cons, List.length_nil] at h1
    simp only [IntKind.wrap_u64]
    omega
  have HW := Lib.hid hw
  obtain ⟨v, hv⟩ : ∃ v, num [x0, x1, x2, x3, x4, x5, x6, x7] = v := ⟨_, rfl⟩
  rw [hv] at M HW ⊢
  clear c0 c1 c2 c3 c4 c5 c6 c7 hl hc hw hv
  go_enter Tryz.func83, Tryz.ntmps83
  go_wp2_with fail
  refine M.out.mono ?_
  rintro e w' ⟨rfl, m, rfl⟩
  go_wp2_with fail
  go_ret
  exact ⟨by first | rfl | (rw [HW.out]), m, rfl⟩

end Go.Proofs.YtdmpiecdpdknaaaGreatDoor
namespace Go.Proofs.YtdmpiecdpdknaaaGreatDoor
open Go.RowKit

theorem val_set (xs : List Nat) (k v : Nat) (hk : k < xs.length) : val (xs.set k v) + Pw k * xs[k] = val xs + Pw k * v := by
  induction xs generalizing k with
  | nil => simp at hk
  | cons x xs ih =>
    cases k with
    | zero => simp only [List.set_cons_zero, val, Pw_zero, List.getElem_cons_zero]; omega
    | succ k =>
      have := ih k (by simpa using hk)
      simp only [List.set_cons_succ, val, List.getElem_cons_succ, Pw_succ]
      rw [Nat.mul_assoc, Nat.mul_assoc, Nat.add_assoc, Nat.add_assoc, ← Nat.mul_add, ← Nat.mul_add, this]

theorem Pb_eight (k : Nat) : Pb (8 * k) = Pw k := by unfold Pb Pw; rw [Nat.pow_mul]
theorem num_drop_one (bs : List UInt8) (i : Nat) (hi : i < bs.length) : num (bs.drop i) = bs[i].toNat * Pb (bs.length - (i + 1)) + num (bs.drop (i + 1)) := by
  rw [List.drop_eq_getElem_cons hi, num, List.length_drop]
theorem num_drop_eight (bs : List UInt8) (i : Nat) (hi : i + 8 ≤ bs.length) : num (bs.drop i) = num [bs[i], bs[i + 1], bs[i + 2], bs[i + 3], bs[i + 4], bs[i + 5], bs[i + 6], bs[i + 7]] * Pb (bs.length - (i + 8)) + num (bs.drop (i + 8)) := by
  have e : bs.drop i = [bs[i], bs[i + 1], bs[i + 2], bs[i + 3], bs[i + 4], bs[i + 5], bs[i + 6], bs[i + 7]] ++ bs.drop (i + 8) := by
    rw [List.drop_eq_getElem_cons (by omega), List.drop_eq_getElem_cons (by omega), List.drop_eq_getElem_cons (by omega), List.drop_eq_getElem_cons (by omega), List.drop_eq_getElem_cons (by omega), List.drop_eq_getElem_cons (by omega), List.drop_eq_getElem_cons (by omega), List.drop_eq_getElem_cons (by omega)]
    rfl
  rw [e, num_append, List.length_drop]

/-- Bytes and words never share a block. -/
theorem NatAt.noBytes {w : World} {p b ba off : Nat} {xs rest : List Nat} (h : NatAt w p b xs rest) {x : UInt8} (hc : w.cell? ⟨ba, off, none⟩ = some (.int .u8 (x.toNat : Int))) : ba ≠ b := by
  rintro rfl
  rw [h.2.1.cell] at hc
  rw [List.getElem?_toArray, List.getElem?_map] at hc
  cases h2 : (xs ++ rest)[off]? with
  | none => rw [h2] at hc; cases hc
  | some y => rw [h2] at hc; simp [U] at hc

/-- A new error. -/
def IsErr (v : Value) : Prop := ∃ a, v = .iface 115 (.pointer (some a))

theorem errNew_any (s : ByteArray) (w : World) : Calls Tryz.prog 56 #[.string s] w fun e w' => e = .returned (.iface 115 (.pointer (some ⟨w.heap.size, 0, none⟩))) ∧ Kept NoBlk w w' := by
  go_enter Tryz.func56, Tryz.ntmps56
  go_wp2_with fail
  go_ret
  exact ⟨rfl, (Kept.refl _ w).alloc _⟩

/-- The state of the loops: the bytes from i on are taken in, the words from k on are nought. -/
def SB (p b n : Nat) (bs : List UInt8) (rest : List Nat) (w : World) (k i : Nat) (xs : List Nat) (wr : World) : Prop :=
  xs.length = n ∧ NatAt wr p b xs rest ∧ val xs = num (bs.drop i) ∧ (∀ j, k ≤ j → (h : j < xs.length) → xs[j] = 0) ∧ Kept (OneBlk b) w wr

/-- What setBytes leaves: the number, where there is room. -/
def SetB (p b n : Nat) (bs : List UInt8) (rest : List Nat) (w : World) (e : Ending) (w' : World) : Prop :=
  ∃ (v : Value) (xs : List Nat), e = .returned v ∧ xs.length = n ∧ NatAt w' p b xs rest ∧ Kept (OneBlk b) w w' ∧ (bs.length ≤ 8 * n → v = .nilIface ∧ val xs = num bs) ∧ (8 * n < bs.length → IsErr v)

theorem SB.word {p b n k j : Nat} {bs : List UInt8} {rest xs : List Nat} {w wr w' : World} (h : SB p b n bs rest w k (j + 8) xs wr) (hk : k < n) (hi : j + 8 + 8 * k = bs.length) {v : Nat}
    (hv : num [bs[j], bs[j + 1], bs[j + 2], bs[j + 3], bs[j + 4], bs[j + 5], bs[j + 6], bs[j + 7]] = v) (q : Nat) (hw : w' = (wr.drewN q).setCell ⟨b, k, none⟩ (.int .u64 (v : Int))) : SB p b n bs rest w (k + 1) j (xs.set k v) w' := by
  obtain ⟨h1, h2, h3, h4, h5⟩ := h
  have hvl : v < 18446744073709551616 := by
    have := num_lt [bs[j], bs[j + 1], bs[j + 2], bs[j + 3], bs[j + 4], bs[j + 5], bs[j + 6], bs[j + 7]]
    rw [hv] at this
    simpa [Pb] using this
  subst hw
  refine ⟨by rw [List.length_set]; exact h1, (h2.drewN q).setLimb k v (by omega) hvl, ?_, fun i hi1 hi2 => ?_, (h5.drewN q).setOne _ _⟩
  · have := val_set xs k v (by omega)
    rw [h4 k (Nat.le_refl _) (by omega), Nat.mul_zero, Nat.add_zero] at this
    rw [this, h3, num_drop_eight bs j (by omega), hv, show bs.length - (j + 8) = 8 * k by omega, Pb_eight, Nat.mul_comm v]
    omega
  · rw [List.getElem_set_ne (by omega)]
    exact h4 i (by omega) _

/-- The state of the second loop: t bytes of the top word are taken in. -/
def SB2 (p b n : Nat) (bs : List UInt8) (rest : List Nat) (w : World) (k i t : Nat) (xs : List Nat) (wr : World) : Prop :=
  xs.length = n ∧ NatAt wr p b xs rest ∧ val xs = num (bs.drop i) ∧ (∃ h : k < xs.length, xs[k] < 2 ^ (8 * t)) ∧ Kept (OneBlk b) w wr

theorem SB2.byte {p b n k i t : Nat} {bs : List UInt8} {rest xs : List Nat} {w wr w' : World} (h : SB2 p b n bs rest w k (i + 1) t xs wr) (hi : i + 1 + t + 8 * k = bs.length) (ht : t < 8) {y z : Nat} (hy : xs[k]? = some y)
    (hz : z = y + bs[i].toNat * 2 ^ (8 * t)) (hw : ∃ q, w' = ((wr.setCell ⟨b, k, none⟩ (.int .u64 (z : Int)))).drewN q) : SB2 p b n bs rest w k i (t + 1) (xs.set k z) w' := by
  obtain ⟨h1, h2, h3, ⟨h4, h4'⟩, h5⟩ := h
  obtain ⟨q, rfl⟩ := hw
  have hyy : y = xs[k] := by rw [List.getElem?_eq_getElem h4] at hy; exact (Option.some.inj hy).symm
  subst hyy
  have hx := bs[i].toNat_lt
  have hzl : z < 2 ^ (8 * (t + 1)) := by
    rw [Nat.mul_add, Nat.pow_add, hz]
    have := Nat.mul_le_mul_right (2 ^ (8 * t)) (show bs[i].toNat ≤ 255 by omega)
    omega
  have hz64 : z < 18446744073709551616 := Nat.lt_of_lt_of_le hzl (Nat.pow_le_pow_right (n := 2) (by decide) (show 8 * (t + 1) ≤ 64 by omega))
  refine ⟨by rw [List.length_set]; exact h1, (h2.setLimb k z h4 hz64).drewN q, ?_, ⟨by rw [List.length_set]; exact h4, by rw [List.getElem_set_self]; exact hzl⟩, (h5.setOne _ _).drewN q⟩
  have := val_set xs k z h4
  rw [num_drop_one bs i (by omega), ← h3, show bs.length - (i + 1) = 8 * k + t by omega, Pb_add, Pb_eight, Pb_two]
  have hm : Pw k * z = Pw k * xs[k] + Pw k * (bs[i].toNat * 2 ^ (8 * t)) := by rw [hz, Nat.mul_add]
  have e : bs[i].toNat * (Pw k * 2 ^ (8 * t)) = Pw k * (bs[i].toNat * 2 ^ (8 * t)) := Nat.mul_left_comm _ _ _
  omega

theorem or_byte (x : UInt8) (y t z : Nat) (hy : y < 2 ^ (8 * t)) (ht : t < 8) (hz : z = y + x.toNat * 2 ^ (8 * t)) : bits .or .u64 (y : Int) (IntKind.u64.wrap (IntKind.u64.wrap (x.toNat : Int) * 2 ^ (8 * t))) = (z : Int) := by
  have hx := x.toNat_lt
  have e1 : IntKind.u64.wrap (x.toNat : Int) = (x.toNat : Int) := by rw [IntKind.wrap_u64]; omega
  have e2 : (x.toNat : Int) * 2 ^ (8 * t) = ((x.toNat * 2 ^ (8 * t) : Nat) : Int) := by rw [Int.natCast_mul, Int.natCast_pow]; rfl
  have h1 : x.toNat * 2 ^ (8 * t) < 18446744073709551616 := by
    have a := Nat.mul_le_mul_right (2 ^ (8 * t)) (show x.toNat ≤ 255 by omega)
    have b : 2 ^ (8 * t + 8) ≤ 18446744073709551616 := Nat.pow_le_pow_right (n := 2) (by decide) (show 8 * t + 8 ≤ 64 by omega)
    have c := Nat.pow_pos (n := 8 * t) (show 0 < 2 by decide)
    rw [Nat.pow_add] at b
    omega
  have h2 : y < 18446744073709551616 := Nat.lt_of_lt_of_le hy (Nat.pow_le_pow_right (n := 2) (by decide) (show 8 * t ≤ 64 by omega))
  have e3 : IntKind.u64.wrap ((x.toNat * 2 ^ (8 * t) : Nat) : Int) = ((x.toNat * 2 ^ (8 * t) : Nat) : Int) := by rw [IntKind.wrap_u64]; omega
  rw [e1, e2, e3, bits_or_u64_nat _ _ h2 h1, or_sum _ _ _ hy, hz]

set_option maxHeartbeats 1000000 in
theorem setBytes_any (p b n : Nat) (rest : List Nat) (A : Option Addr) (cap : Nat) (bs : List UInt8) (w : World) (hx : NatAt w p b (noughts n) rest) (hb : BytesAt w A bs) (hn : n + rest.length ≤ 1000000) (hc : bs.length ≤ cap) (hL : bs.length ≤ 4294967296) :
    Calls Tryz.prog 54 #[.pointer (some ⟨p, 0, none⟩), .slice A bs.length cap] w (SetB p b n bs rest w) := by
  have hst : SB p b n bs rest w 0 bs.length (noughts n) w := ⟨noughts_length n, hx, by rw [val_noughts, List.drop_length]; rfl, fun j _ h => by simp [noughts], Kept.refl _ _⟩
  have HX0 := Lib.hid hx
  have HST := Lib.hid hst
  have HB := Lib.hid hb
  clear hst hx hb
  go_enter Tryz.func54, Tryz.ntmps54
  go_wp2_with fail
  go_loopw [5, 6] (fun iv kv wr => ∃ (i k : Nat) (xs : List Nat), k ≤ n ∧ iv = .int .i64 (i : Int) ∧ kv = .int .i64 (k : Int) ∧ i + 8 * k = bs.length ∧ SB p b n bs rest w k i xs wr) (fun iv _ _ => (intOf iv).toNat)
  case atStart => exact ⟨bs.length, 0, _, Nat.zero_le _, rfl, rfl, by omega, HST.out⟩
  case round =>
    obtain ⟨i, k, xs, hk, rfl, rfl, hi, hS⟩ := hrel
    have c1 := hS.2.1.cell
    rw [hS.1] at c1
    have HS := Lib.hid hS
    clear hS
    rcases Nat.lt_or_ge k n with hkn | hkn
    · by_cases hi8 : 8 ≤ i
      · obtain ⟨j, rfl⟩ : ∃ j, i = j + 8 := ⟨i - 8, by omega⟩
        obtain ⟨ba, off, rfl, hbl, hcell⟩ := HB.out.at_ (k := 0) (by omega)
        have hjl : j + 8 ≤ bs.length := by omega
        have hbab : ba ≠ b := HX0.out.noBytes (hcell 0 bs[0] (List.getElem?_eq_getElem (by omega)))
        have g : ∀ m, (h : j + m < bs.length) → wr.cell? ⟨ba, off + j + m, none⟩ = some (.int .u8 (bs[j + m].toNat : Int)) := fun m h => by
          rw [Nat.add_assoc]
          exact (HS.out.2.2.2.2.cell (p := ⟨ba, off + (j + m), none⟩) hbl hbab).trans (hcell (j + m) _ (List.getElem?_eq_getElem h))
        obtain ⟨v, hv⟩ : ∃ v, num [bs[j], bs[j + 1], bs[j + 2], bs[j + 3], bs[j + 4], bs[j + 5], bs[j + 6], bs[j + 7]] = v := ⟨_, rfl⟩
        have m1 : ∀ nq, _ := fun nq => beUint_any ba (off + j) 8 (cap - j) _ _ _ _ _ _ _ _ (wr.drewN nq) (Nat.le_refl _) (by omega) (g 0 (by omega)) (g 1 (by omega)) (g 2 (by omega)) (g 3 (by omega)) (g 4 (by omega)) (g 5 (by omega)) (g 6 (by omega)) (g 7 (by omega))
        simp only [Nat.add_zero] at m1
        rw [hv] at m1
        have cx := HS.out.2.1.limb k (by have := HS.out.1; omega)
        have fx := HS.out.2.1.2.1.frozen k
        have M1 := Lib.hid m1
        have HV := Lib.hid hv
        have hw0 : ((j + 8 : Nat) : Int) = (j : Int) + 8 := by omega
        have hw1 : IntKind.i64.wrap ((j : Int) + 8 - 8) = (j : Int) := by rw [IntWalk.i64_in _ (by omega)]; omega
        have hw2 : ¬ cap = j := by omega
        have hw3 : j + 8 - j = 8 := by omega
        have hw4 : (j : Int) + 8 ≤ (cap : Int) := by omega
        have hw5 : ((j : Int) + 8).toNat = j + 8 := by omega
        have hw6 : (0 : Int) ≤ (j : Int) + 8 := by omega
        have hw7 : j ≤ j + 8 := by omega
        have hw8 : IntKind.i64.wrap (j : Int) = (j : Int) := IntWalk.i64_in _ (by omega)
        have hw9 : (j : Int) ≤ (j : Int) + 8 := by omega
        clear m1 g hcell hv
        go_wp2_with fail
        go_region_with (go_at_call 83; refine (M1.out _).mono ?_; rintro e w' ⟨rfl, m, rfl⟩)
        all_goals clear hw0 hw1 hw2 hw3 hw4 hw5 hw6 hw7 hw8 hw9
        all_goals go_wp2_with fail
        all_goals
          go_roundw
          case rel => exact ⟨j, k + 1, _, by omega, by first | go_num | (congr 1; omega), by go_num, by omega, HS.out.word hkn hi HV.out _ rfl⟩
          case measure => simp [intOf]; omega
      · have hni : ¬ (8 : Int) ≤ (i : Int) := by omega
        have hki : (k : Int) < (n : Int) := by omega
        have hs2 : SB2 p b n bs rest w k i 0 xs wr := ⟨HS.out.1, HS.out.2.1, HS.out.2.2.1, ⟨by have := HS.out.1; omega, by rw [HS.out.2.2.2.1 k (Nat.le_refl _) (by have := HS.out.1; omega)]; decide⟩, HS.out.2.2.2.2⟩
        have HS2 := Lib.hid hs2
        clear hs2 HS
        go_wp2_with fail
        go_loopw [5, 7] (fun iv sv wr => ∃ (i' t : Nat) (xs : List Nat), i' + t = i ∧ iv = .int .i64 (i' : Int) ∧ sv = .int .i64 ((8 * t : Nat) : Int) ∧ SB2 p b n bs rest w k i' t xs wr) (fun iv _ _ => (intOf iv).toNat)
        case atStart => exact ⟨i, 0, xs, by omega, rfl, rfl, HS2.out⟩
        case round =>
          obtain ⟨i', t, xs, hit, rfl, rfl, hS⟩ := hrel
          have c1 := hS.2.1.cell
          rw [hS.1] at c1
          have HS := Lib.hid hS
          clear hS
          have hs64 : ((8 * t : Nat) : Int) < 64 := by omega
          rcases Nat.eq_zero_or_pos i' with h0 | h0
          · subst h0
            have hz0 : ¬ (0 : Int) < ((0 : Nat) : Int) := by omega
            go_wp2_with fail
            go_ret
            exact ⟨_, xs, rfl, HS.out.1, HS.out.2.1, HS.out.2.2.2.2, fun _ => ⟨rfl, HS.out.2.2.1⟩, fun h => by omega⟩
          · obtain ⟨j, rfl⟩ : ∃ j, i' = j + 1 := ⟨i' - 1, by omega⟩
            obtain ⟨ba, off, rfl, hbl, hcell⟩ := HB.out.at_ (k := 0) (by omega)
            have hjl : j < bs.length := by omega
            have hbab : ba ≠ b := HX0.out.noBytes (hcell 0 bs[0] (List.getElem?_eq_getElem (by omega)))
            have cb : wr.cell? ⟨ba, off + j, none⟩ = some (.int .u8 (bs[j].toNat : Int)) := (HS.out.2.2.2.2.cell (p := ⟨ba, off + j, none⟩) hbl hbab).trans (hcell j _ (List.getElem?_eq_getElem hjl))
            obtain ⟨hkx, hylt⟩ := HS.out.2.2.2.1
            have cx := HS.out.2.1.limb k hkx
            have fx := HS.out.2.1.2.1.frozen k
            obtain ⟨y, hy⟩ : ∃ y, xs[k] = y := ⟨_, rfl⟩
            rw [hy] at cx hylt
            have hpos : (0 : Int) < ((j + 1 : Nat) : Int) := by omega
            have hw0 : ((j + 1 : Nat) : Int) = (j : Int) + 1 := by omega
            have hw1 : IntKind.i64.wrap ((j : Int) + 1 - 1) = (j : Int) := by rw [IntWalk.i64_in _ (by omega)]; omega
            have hw2 : IntKind.i64.wrap (j : Int) = (j : Int) := IntWalk.i64_in _ (by omega)
            have hw3 : (j : Int) < (bs.length : Int) := by omega
            obtain ⟨z, hz⟩ : ∃ z, z = y + bs[j].toNat * 2 ^ (8 * t) := ⟨_, rfl⟩
            have hor := or_byte bs[j] y t z hylt (by omega) hz
            have HOR := Lib.hid hor
            have HZ := Lib.hid hz
            have HY : Hid (xs[k]? = some y) := Lib.hid (by rw [List.getElem?_eq_getElem hkx, hy])
            clear hcell hy hor hz hylt
            go_wp2_with fail
            go_region
            all_goals clear hw0 hw1 hw2 hw3
            all_goals go_wp2_with fail
            all_goals
              go_roundw
              case rel => exact ⟨j, t + 1, _, by omega, by first | go_num | (congr 1; omega), by first | go_num | (congr 1; omega), HS.out.byte (by omega) (by omega) HY.out HZ.out ⟨1, by rw [HOR.out]; rfl⟩⟩
              case measure => first | (simp [intOf]; done) | (simp [intOf]; omega)
    · obtain rfl : k = n := by omega
      rcases Nat.eq_zero_or_pos i with h0 | h0
      · subst h0
        go_wp2_with fail
        go_loopw [5, 7] (fun iv sv wr' => iv = .int .i64 0 ∧ sv = .int .i64 0 ∧ wr' = wr) (fun iv _ _ => (intOf iv).toNat)
        case atStart => exact ⟨rfl, rfl, rfl⟩
        case round =>
          obtain ⟨rfl, rfl, rfl⟩ := hrel
          go_wp2_with fail
          go_ret
          exact ⟨_, xs, rfl, HS.out.1, HS.out.2.1, HS.out.2.2.2.2, fun _ => ⟨rfl, HS.out.2.2.1⟩, fun h => by omega⟩
      · have hpos : (0 : Int) < (i : Int) := by omega
        go_wp2_with fail
        go_loopw [5, 7] (fun iv sv wr' => iv = .int .i64 (i : Int) ∧ sv = .int .i64 0 ∧ wr' = wr) (fun iv _ _ => (intOf iv).toNat)
        case atStart => exact ⟨rfl, rfl, rfl⟩
        case round =>
          obtain ⟨rfl, rfl, rfl⟩ := hrel
          go_wp2_with fail
          refine (errNew_any _ _).mono ?_
          rintro e w' ⟨rfl, k1⟩
          have K1 := Lib.hid k1
          clear k1
          go_wp2_with fail
          go_ret
          exact ⟨_, xs, rfl, HS.out.1, HS.out.2.1.still K1.out, HS.out.2.2.2.2.step K1.out (fun _ _ e => e.elim), fun h => by omega, fun _ => ⟨_, rfl⟩⟩

end Go.Proofs.YtdmpiecdpdknaaaGreatDoor
namespace Go.Proofs.YtdmpiecdpdknaaaGreatDoor
open Go.RowKit

/-- So many words are left; those that are gone are nought. -/
def Trm (p b : Nat) (xs rest : List Nat) (w : World) (k : Nat) (wr : World) : Prop :=
  k ≤ xs.length ∧ NatAt wr p b (xs.take k) (xs.drop k ++ rest) ∧ (∀ j, k ≤ j → (h : j < xs.length) → xs[j] = 0) ∧ Kept (OneBlk p) w wr

theorem Trm.val {p b k : Nat} {xs rest : List Nat} {w wr : World} (h : Trm p b xs rest w k wr) : val (xs.take k) = val xs := by
  have hd : YtdmpiecdpdknaaaGreatDoor.val (xs.drop k) = 0 := val_eq_zero.2 (fun y hy => by
    obtain ⟨i, hi, rfl⟩ := List.getElem_of_mem hy
    rw [List.getElem_drop]
    exact h.2.2.1 _ (by omega) _)
  have e : YtdmpiecdpdknaaaGreatDoor.val xs = YtdmpiecdpdknaaaGreatDoor.val (xs.take k ++ xs.drop k) := by rw [List.take_append_drop]
  rw [e, val_append, hd, Nat.mul_zero, Nat.add_zero]

theorem Trm.less {p b k : Nat} {xs rest : List Nat} {w wr w' : World} (h : Trm p b xs rest w (k + 1) wr) (hz : ∀ (hk : k < xs.length), xs[k] = 0)
    (hw : w' = wr.setCell ⟨p, 0, none⟩ (.slice (some ⟨b, 0, none⟩) k (xs.length + rest.length))) : Trm p b xs rest w k w' := by
  obtain ⟨h1, h2, h3, h4⟩ := h
  subst hw
  refine ⟨by omega, ⟨?_, ?_, ?_, ?_⟩, fun j hj hl => ?_, h4.setOne _ _⟩
  · have := h2.1.set_ 0 (.slice (some ⟨b, 0, none⟩) k (xs.length + rest.length))
    have e : (xs.take k).length = k := by rw [List.length_take]; omega
    have e2 : (xs.drop k ++ rest).length = xs.length - k + rest.length := by simp
    rw [e, e2, show k + (xs.length - k + rest.length) = xs.length + rest.length by omega]
    exact this
  · have := h2.2.1.far (p := ⟨p, 0, none⟩) (fun e => h2.pb e.symm) (.slice (some ⟨b, 0, none⟩) k (xs.length + rest.length))
    rw [← List.append_assoc, List.take_append_drop] at this ⊢
    exact this
  · exact fun y hy => h2.2.2.1 y (by
      rw [List.take_succ_eq_append_getElem (by omega)]
      exact List.mem_append_left _ hy)
  · have : Wd (xs ++ rest) := by
      have := h2.2.2.1.app h2.2.2.2
      rw [← List.append_assoc, List.take_append_drop] at this
      exact this
    intro y hy
    rcases List.mem_append.1 hy with hy | hy
    · exact this y (List.mem_append_left _ (List.mem_of_mem_drop hy))
    · exact this y (List.mem_append_right _ hy)
  · rcases Nat.eq_or_lt_of_le hj with rfl | hj
    · exact hz hl
    · exact h3 j hj hl

/-- What trim leaves. -/
def Trimd (p b : Nat) (xs rest : List Nat) (w : World) (e : Ending) (w' : World) : Prop :=
  e = .returned (.pointer (some ⟨p, 0, none⟩)) ∧ ∃ k, Trm p b xs rest w k w' ∧ (k = 0 ∨ ∃ h : k - 1 < xs.length, xs[k - 1] ≠ 0)

theorem trim_any (p b : Nat) (xs rest : List Nat) (w : World) (hx : NatAt w p b xs rest) (hn : xs.length + rest.length ≤ 1000000) :
    Calls Tryz.prog 78 #[.pointer (some ⟨p, 0, none⟩)] w (Trimd p b xs rest w) := by
  have c1 := hx.cell
  have hst : Trm p b xs rest w xs.length w := ⟨Nat.le_refl _, by rw [List.take_of_length_le (Nat.le_refl _), List.drop_eq_nil_of_le (Nat.le_refl _), List.nil_append]; exact hx, fun j h1 h2 => by omega, Kept.refl _ _⟩
  have HST := Lib.hid hst
  clear hst hx
  go_enter Tryz.func78, Tryz.ntmps78
  go_wp2_with fail
  clear c1
  go_loopw [3] (fun iv wr => ∃ (k : Nat), k ≤ xs.length ∧ iv = .int .i64 ((k : Int) - 1) ∧ Trm p b xs rest w k wr) (fun iv _ => (intOf iv + 1).toNat)
  case atStart => exact ⟨xs.length, Nat.le_refl _, rfl, HST.out⟩
  case round =>
    obtain ⟨k, hk, rfl, hS⟩ := hrel
    have hl : (xs.take k).length = k := by rw [List.length_take]; omega
    have c1 := hS.2.1.cell
    rw [hl, show k + (xs.drop k ++ rest).length = xs.length + rest.length by simp; omega] at c1
    have HS := Lib.hid hS
    rcases Nat.eq_zero_or_pos k with h0 | h0
    · subst h0
      clear hS hl
      have hneg : ¬ (0 : Int) ≤ ((0 : Nat) : Int) - 1 := by omega
      go_wp2_with fail
      go_ret
      exact ⟨rfl, 0, HS.out, .inl rfl⟩
    · obtain ⟨j, rfl⟩ : ∃ j, k = j + 1 := ⟨k - 1, by omega⟩
      have cx := hS.2.1.limb j (by omega)
      rw [List.getElem_take] at cx
      have ej : ((j + 1 : Nat) : Int) - 1 = (j : Int) := by omega
      have f1 := hS.2.1.1.frozen 0
      obtain ⟨x, hx⟩ : ∃ x, xs[j] = x := ⟨_, rfl⟩
      rw [hx] at cx
      clear hS hl
      by_cases hx0 : x = 0
      · subst hx0
        have HX : Hid (xs[j] = 0) := Lib.hid hx
        clear hx
        have hb : (j : Int) ≤ (xs.length : Int) + (rest.length : Int) := by omega
        rw [ej]
        go_wp2_with fail
        go_roundw
        case rel => exact ⟨j, by omega, rfl, HS.out.less (fun _ => HX.out) rfl⟩
        case measure => simp [intOf]
      · have hn0 : ((x : Int) != 0) = true := by rw [bne_iff_ne]; omega
        have HX : Hid (xs[j] ≠ 0) := Lib.hid (by rw [hx]; exact hx0)
        clear hx
        rw [ej]
        go_wp2_with fail
        go_ret
        exact ⟨rfl, j + 1, HS.out, .inr ⟨by omega, HX.out⟩⟩

/-- A number in as many words as it has. -/
def Slim (xs : List Nat) : Prop := xs = [] ∨ ∃ h : xs.length - 1 < xs.length, xs[xs.length - 1] ≠ 0
theorem Slim.ge {xs : List Nat} (h : Slim xs) (h0 : xs ≠ []) : Pw (xs.length - 1) ≤ val xs := by
  rcases h with h | ⟨hl, h⟩
  · exact absurd h h0
  · have e : xs = xs.take (xs.length - 1) ++ [xs[xs.length - 1]] := by
      rw [List.take_append_getElem, Nat.sub_add_cancel (by omega), List.take_of_length_le (Nat.le_refl _)]
    have := val_snoc (xs.take (xs.length - 1)) xs[xs.length - 1]
    rw [← e, List.length_take, Nat.min_eq_left (by omega)] at this
    rw [this]
    have := Nat.mul_le_mul_left (Pw (xs.length - 1)) (show 1 ≤ xs[xs.length - 1] by omega)
    omega

/-- What resetToBytes leaves: the number of the bytes, without words ahead that are nought. -/
def ToBytes (p b : Nat) (bs : List UInt8) (capOld : Nat) (w : World) (e : Ending) (w' : World) : Prop :=
  e = .returned (.pointer (some ⟨p, 0, none⟩)) ∧ ∃ (b' : Nat) (zs rest' : List Nat), NatAt w' p b' zs rest' ∧ Slim zs ∧ val zs = num bs ∧ 8 * zs.length ≤ bs.length + 7 ∧ (b' = b ∨ w.heap.size ≤ b') ∧ zs.length + rest'.length ≤ max ((bs.length + 7) / 8) capOld ∧
    ((bs.length + 7) / 8 ≤ capOld → b' = b ∧ zs.length + rest'.length = capOld) ∧ Kept (Both p b) w w'

theorem resetToBytes_any (p b : Nat) (xs rest : List Nat) (A : Option Addr) (cap : Nat) (bs : List UInt8) (w : World) (hx : NatAt w p b xs rest) (hb : BytesAt w A bs) (hA : ∀ a, A = some a → bs ≠ [] → a.block ≠ p ∧ a.block ≠ b)
    (hn : xs.length + rest.length ≤ 500000) (hc : bs.length ≤ cap) (hL : bs.length ≤ 3000000) :
    Calls Tryz.prog 51 #[.pointer (some ⟨p, 0, none⟩), .slice A bs.length cap] w (ToBytes p b bs (xs.length + rest.length) w) := by
  obtain ⟨n, hnn⟩ : ∃ n, (bs.length + 7) / 8 = n := ⟨_, rfl⟩
  have hr := reset_any p b n xs rest w hx (by omega)
  have hq : ((bs.length : Int) + 8 - 1).tdiv 8 = (n : Int) := by rw [Int.tdiv_eq_ediv_of_nonneg (by omega)]; omega
  have hwn : wrap64 (n : Int) = (n : Int) := by unfold wrap64; omega
  have HR := Lib.hid hr
  have HB := Lib.hid hb
  have HX := Lib.hid hx
  have HN := Lib.hid hnn
  have hn2 : n ≤ 400000 := by omega
  clear hr hb hx hnn
  go_enter Tryz.func51, Tryz.ntmps51
  go_wp2_with fail
  refine HR.out.mono ?_
  rintro e w1 ⟨rfl, b1, rest1, h1, h2, h3, h4⟩
  rw [noughts_length] at h2 h3
  have hb1 : BytesAt w1 A bs := by
    rcases A with _ | a
    · exact HB.out.kept h4 (fun a e => by cases e)
    · by_cases h0 : bs = []
      · subst h0; exact .inl rfl
      · exact HB.out.kept h4 (fun a' e => by
          cases e
          have := hA a rfl h0
          unfold Both
          omega)
  have hs := setBytes_any p b1 n rest1 A cap bs w1 h1 hb1 (by omega) hc (by omega)
  have HS := Lib.hid hs
  have K1 := Lib.hid h4
  clear hs h1 hb1 h4 HR hq hwn
  go_wp2_with fail
  refine HS.out.mono ?_
  rintro e w2 ⟨v, zs, rfl, hz, h5, k2, h6, _⟩
  obtain ⟨rfl, hv⟩ := h6 (by have := HN.out; omega)
  have ht := trim_any p b1 zs rest1 w2 h5 (by omega)
  have HT := Lib.hid ht
  have K2 := Lib.hid k2
  have HV := Lib.hid hv
  have HZ := Lib.hid hz
  clear ht k2 hv hz h5 h6 HS
  go_wp2_with fail
  refine HT.out.mono ?_
  rintro e w3 ⟨rfl, k, hk, hk2⟩
  have hfin : ToBytes p b bs (xs.length + rest.length) w (.returned (.pointer (some ⟨p, 0, none⟩))) w3 := by
    have hkl : (zs.take k).length = k := by rw [List.length_take]; have := hk.1; omega
    have hsz := K1.out.size
    have hslim : Slim (zs.take k) := by
      rcases hk2 with h | ⟨h, h'⟩
      · left; rw [h, List.take_zero]
      · by_cases h0 : k = 0
        · left; rw [h0, List.take_zero]
        · right
          refine ⟨by rw [hkl]; clear h'; omega, ?_⟩
          rw [List.getElem_take]
          simp only [hkl]
          exact h'
    clear hk2
    refine ⟨rfl, b1, zs.take k, zs.drop k ++ rest1, hk.2.1, hslim, hk.val.trans HV.out, ?_, ?_, ?_, ?_, ?_⟩
    · have := hk.1; have := HZ.out; have := HN.out; rw [hkl]; omega
    · omega
    · have := hk.1; have := HZ.out; have := HN.out; rw [hkl, List.length_append, List.length_drop]; omega
    · intro h; have := hk.1; have := HZ.out; have := HN.out; rw [hkl, List.length_append, List.length_drop]; omega
    · refine (K1.out.step K2.out (fun i hi e => ?_)).step hk.2.2.2 (fun i hi e => .inl e)
      unfold OneBlk at e
      unfold Both
      omega
  have FIN := Lib.hid hfin
  clear hfin hk HT
  go_wp2_with fail
  go_ret
  exact FIN.out

end Go.Proofs.YtdmpiecdpdknaaaGreatDoor
