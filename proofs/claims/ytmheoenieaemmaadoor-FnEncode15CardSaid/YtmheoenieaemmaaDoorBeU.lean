/-
  bigmod: beUint32, beUint64, bigEndianUint.
-/
import Derived.Test.YtmheoenieaemmaaDoorNatBits
import Derived.Laws.BitsAllLaws
namespace Go.Proofs.YtmheoenieaemmaaDoor
open Go.RowKit

theorem ret_int {k : IntKind} {a b : Int} (h : a = b) : Ending.returned (.int k a) = .returned (.int k b) := by rw [h]

/-- Below a power of 2 'or' is a sum. -/
theorem or_sum (a y k : Nat) (h : a < 2 ^ k) : a ||| y * 2 ^ k = a + y * 2 ^ k := by
  rw [Nat.or_comm, Nat.mul_comm, ← Nat.two_pow_add_eq_or_of_lt h, Nat.add_comm]

theorem or32 (a b : Nat) (ha : a < 4294967296) (hb : b < 4294967296) : bits .or .u32 (a : Int) (b : Int) = ((a ||| b : Nat) : Int) := u32_or_nat a b ha hb

theorem be32_sum (x0 x1 x2 x3 : UInt8) : bits BinOp.or IntKind.u32 (bits BinOp.or IntKind.u32 (bits BinOp.or IntKind.u32 ((x3.toNat : Int) % 4294967296) ((x2.toNat : Int) % 4294967296 * 256 % 4294967296)) ((x1.toNat : Int) % 4294967296 * 65536 % 4294967296)) ((x0.toNat : Int) % 4294967296 * 16777216 % 4294967296) = (num [x0, x1, x2, x3] : Int) := by
  have h0 := x0.toNat_lt
  have h1 := x1.toNat_lt
  have h2 := x2.toNat_lt
  have h3 := x3.toNat_lt
  have e3 : (x3.toNat : Int) % 4294967296 = (x3.toNat : Int) := by omega
  have e2 : (x2.toNat : Int) % 4294967296 * 256 % 4294967296 = ((x2.toNat * 2 ^ 8 : Nat) : Int) := by omega
  have e1 : (x1.toNat : Int) % 4294967296 * 65536 % 4294967296 = ((x1.toNat * 2 ^ 16 : Nat) : Int) := by omega
  have e0 : (x0.toNat : Int) % 4294967296 * 16777216 % 4294967296 = ((x0.toNat * 2 ^ 24 : Nat) : Int) := by omega
  rw [e3, e2, e1, e0, or32 _ _ (by omega) (by omega), or_sum _ _ 8 (by omega), or32 _ _ (by omega) (by omega), or_sum _ _ 16 (by omega), or32 _ _ (by omega) (by omega), or_sum _ _ 24 (by omega)]
  simp only [num, Pb, List.length_cons, List.length_nil]
  omega

theorem be32_any (b off len cap : Nat) (x0 x1 x2 x3 : UInt8) (w : World) (hl : 4 ≤ len) (_hc : len ≤ cap)
    (c0 : w.cell? ⟨b, off, none⟩ = some (.int .u8 (x0.toNat : Int))) (c1 : w.cell? ⟨b, off + 1, none⟩ = some (.int .u8 (x1.toNat : Int))) (c2 : w.cell? ⟨b, off + 2, none⟩ = some (.int .u8 (x2.toNat : Int))) (c3 : w.cell? ⟨b, off + 3, none⟩ = some (.int .u8 (x3.toNat : Int))) :
    Calls Tryd.prog 122 #[.slice (some ⟨b, off, none⟩) len cap] w fun e w' => e = .returned (.int .u32 (num [x0, x1, x2, x3] : Int)) ∧ ∃ m, w' = w.drewN m := by
  have b3 : (3 : Int) < (len : Int) := by omega
  have b2 : (2 : Int) < (len : Int) := by omega
  have b1 : (1 : Int) < (len : Int) := by omega
  have b0 : (0 : Int) < (len : Int) := by omega
  go_enter Tryd.func122, Tryd.ntmps122
  go_wp2_with fail
  go_quiet (fail)
  go_wp2_with fail
  go_ret
  exact ⟨ret_int (be32_sum x0 x1 x2 x3), nq, rfl⟩

theorem be64_any (b off len cap : Nat) (x0 x1 x2 x3 x4 x5 x6 x7 : UInt8) (w : World) (hl : 8 ≤ len) (hc : len ≤ cap)
    (c0 : w.cell? ⟨b, off, none⟩ = some (.int .u8 (x0.toNat : Int))) (c1 : w.cell? ⟨b, off + 1, none⟩ = some (.int .u8 (x1.toNat : Int))) (c2 : w.cell? ⟨b, off + 2, none⟩ = some (.int .u8 (x2.toNat : Int))) (c3 : w.cell? ⟨b, off + 3, none⟩ = some (.int .u8 (x3.toNat : Int)))
    (c4 : w.cell? ⟨b, off + 4, none⟩ = some (.int .u8 (x4.toNat : Int))) (c5 : w.cell? ⟨b, off + 5, none⟩ = some (.int .u8 (x5.toNat : Int))) (c6 : w.cell? ⟨b, off + 6, none⟩ = some (.int .u8 (x6.toNat : Int))) (c7 : w.cell? ⟨b, off + 7, none⟩ = some (.int .u8 (x7.toNat : Int))) :
    Calls Tryd.prog 121 #[.slice (some ⟨b, off, none⟩) len cap] w fun e w' => e = .returned (.int .u64 (num [x0, x1, x2, x3, x4, x5, x6, x7] : Int)) ∧ ∃ m, w' = w.drewN m := by
  have b7 : (7 : Int) < (len : Int) := by omega
  have b4 : (4 : Int) ≤ (len : Int) := by omega
  have b4' : ¬ cap = 4 := by omega
  have m1 : ∀ n, _ := fun n => be32_any b off len cap x0 x1 x2 x3 (w.drewN n) (by omega) hc c0 c1 c2 c3
  have c5' : w.cell? ⟨b, off + 4 + 1, none⟩ = some (.int .u8 (x5.toNat : Int)) := by rw [Nat.add_assoc]; exact c5
  have c6' : w.cell? ⟨b, off + 4 + 2, none⟩ = some (.int .u8 (x6.toNat : Int)) := by rw [Nat.add_assoc]; exact c6
  have c7' : w.cell? ⟨b, off + 4 + 3, none⟩ = some (.int .u8 (x7.toNat : Int)) := by rw [Nat.add_assoc]; exact c7
  have m2 : ∀ n, _ := fun n => be32_any b (off + 4) (len - 4) (cap - 4) x4 x5 x6 x7 (w.drewN n) (by omega) (by omega) c4 c5' c6' c7'
  have M1 := Lib.hid m1
  have M2 := Lib.hid m2
  have hf : IntKind.u64.wrap (IntKind.u64.wrap ((num [x0, x1, x2, x3] : Nat) : Int) * 4294967296) = ((num [x0, x1, x2, x3] * 2 ^ 32 : Nat) : Int) ∧ IntKind.u64.wrap ((num [x4, x5, x6, x7] : Nat) : Int) = ((num [x4, x5, x6, x7] : Nat) : Int) := by
    have h1 := num_lt [x0, x1, x2, x3]
    have h2 := num_lt [x4, x5, x6, x7]
    simp only [Pb, List.length_cons, List.length_nil] at h1 h2
    simp only [IntKind.wrap_u64]
    omega
  have hs : bits .or .u64 ((num [x0, x1, x2, x3] * 2 ^ 32 : Nat) : Int) ((num [x4, x5, x6, x7] : Nat) : Int) = (num [x0, x1, x2, x3, x4, x5, x6, x7] : Int) := by
    have h1 := num_lt [x0, x1, x2, x3]
    have h2 := num_lt [x4, x5, x6, x7]
    simp only [Pb, List.length_cons, List.length_nil] at h1 h2
    rw [bits_or_u64_nat _ _ (by omega) (by omega), Nat.or_comm, or_sum _ _ 32 (by omega)]
    have := num_append [x0, x1, x2, x3] [x4, x5, x6, x7]
    simp only [List.cons_append, List.nil_append, Pb, List.length_cons, List.length_nil] at this
    rw [this]
    omega
  have HF := Lib.hid hf
  have HS := Lib.hid hs
  clear m1 m2 hf hs c0 c1 c2 c3 c4 c5 c6 c5' c6' c7'
  go_enter Tryd.func121, Tryd.ntmps121
  go_wp2_with fail
  go_quiet ((go_at_call 122; first | (with_reducible exact Calls.quiet_of (M1.out _)) | (with_reducible exact Calls.quiet_of (M2.out _))))
  go_wp2_with fail
  go_ret
  exact ⟨ret_int (by rw [HF.out.1, HF.out.2]; exact HS.out), nq, rfl⟩

theorem beUint_any (b off len cap : Nat) (x0 x1 x2 x3 x4 x5 x6 x7 : UInt8) (w : World) (hl : 8 ≤ len) (hc : len ≤ cap)
    (c0 : w.cell? ⟨b, off, none⟩ = some (.int .u8 (x0.toNat : Int))) (c1 : w.cell? ⟨b, off + 1, none⟩ = some (.int .u8 (x1.toNat : Int))) (c2 : w.cell? ⟨b, off + 2, none⟩ = some (.int .u8 (x2.toNat : Int))) (c3 : w.cell? ⟨b, off + 3, none⟩ = some (.int .u8 (x3.toNat : Int)))
    (c4 : w.cell? ⟨b, off + 4, none⟩ = some (.int .u8 (x4.toNat : Int))) (c5 : w.cell? ⟨b, off + 5, none⟩ = some (.int .u8 (x5.toNat : Int))) (c6 : w.cell? ⟨b, off + 6, none⟩ = some (.int .u8 (x6.toNat : Int))) (c7 : w.cell? ⟨b, off + 7, none⟩ = some (.int .u8 (x7.toNat : Int))) :
    Calls Tryd.prog 106 #[.slice (some ⟨b, off, none⟩) len cap] w fun e w' => e = .returned (.int .u64 (num [x0, x1, x2, x3, x4, x5, x6, x7] : Int)) ∧ ∃ m, w' = w.drewN m := by
  have M := Lib.hid (be64_any b off len cap x0 x1 x2 x3 x4 x5 x6 x7 w hl hc c0 c1 c2 c3 c4 c5 c6 c7)
  have hw : IntKind.u64.wrap ((num [x0, x1, x2, x3, x4, x5, x6, x7] : Nat) : Int) = ((num [x0, x1, x2, x3, x4, x5, x6, x7] : Nat) : Int) := by
    have h1 := num_lt [x0, x1, x2, x3, x4, x5, x6, x7]
    simp only [Pb, List.length_cons, List.length_nil] at h1
    simp only [IntKind.wrap_u64]
    omega
  have HW := Lib.hid hw
  obtain ⟨v, hv⟩ : ∃ v, num [x0, x1, x2, x3, x4, x5, x6, x7] = v := ⟨_, rfl⟩
  rw [hv] at M HW ⊢
  clear c0 c1 c2 c3 c4 c5 c6 c7 hl hc hw hv
  go_enter Tryd.func106, Tryd.ntmps106
  go_wp2_with fail
  refine M.out.mono ?_
  rintro e w' ⟨rfl, m, rfl⟩
  go_wp2_with fail
  go_ret
  exact ⟨by first | rfl | (rw [HW.out]), m, rfl⟩

end Go.Proofs.YtmheoenieaemmaaDoor
