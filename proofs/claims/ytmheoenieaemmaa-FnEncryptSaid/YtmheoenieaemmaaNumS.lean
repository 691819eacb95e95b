/-
  The numbers of the specification: the plain laws of its loops.
-/
import Derived.Test.YtmheoenieaemmaaNum
namespace Go.Proofs.Ytmheoenieaemmaa

theorem num_set (xs : List UInt8) (i : Nat) (h : i < xs.length) (x : UInt8) :
    num (xs.set i x) + (xs[i]).toNat * Pb (xs.length - 1 - i) = num xs + x.toNat * Pb (xs.length - 1 - i) := by
  induction xs generalizing i with
  | nil => simp at h
  | cons y ys ih =>
    cases i with
    | zero => simp only [List.set_cons_zero, num_cons, List.getElem_cons_zero, List.length_cons, Nat.add_sub_cancel, Nat.sub_zero]; omega
    | succ i =>
      have hi : i < ys.length := by simpa using h
      have e : (y :: ys).length - 1 - (i + 1) = ys.length - 1 - i := by rw [List.length_cons]; omega
      rw [e]
      simp only [List.set_cons_succ, num_cons, List.getElem_cons_succ, List.length_set]
      have := ih i hi
      omega
theorem num_drop (xs : List UInt8) (i : Nat) (h : i < xs.length) : num (xs.drop i) = (xs[i]).toNat * Pb (xs.length - 1 - i) + num (xs.drop (i + 1)) := by
  rw [List.drop_eq_getElem_cons h, num_cons, List.length_drop]
  have e : xs.length - (i + 1) = xs.length - 1 - i := by omega
  rw [e]
theorem num_drop_all (xs : List UInt8) : num (xs.drop xs.length) = 0 := by simp [num]
theorem byte_le (x : UInt8) : x.toNat ≤ 255 := by have := x.toNat_lt; omega
theorem toNat_of (n : Nat) : (UInt8.ofNat n).toNat = n % 256 := by simp

theorem num_drop_at {xs : List UInt8} {i n : Nat} {x : UInt8} (hl : xs.length = n) (h : xs[i]? = some x) : num (xs.drop i) = x.toNat * Pb (n - 1 - i) + num (xs.drop (i + 1)) := by
  obtain ⟨hi, rfl⟩ := List.getElem?_eq_some_iff.1 h
  rw [num_drop xs i hi, hl]
theorem num_set_at {xs : List UInt8} {i n : Nat} {z : UInt8} (hl : xs.length = n) (h : xs[i]? = some z) (x : UInt8) : num (xs.set i x) + z.toNat * Pb (n - 1 - i) = num xs + x.toNat * Pb (n - 1 - i) := by
  obtain ⟨hi, rfl⟩ := List.getElem?_eq_some_iff.1 h
  rw [← hl]; exact num_set xs i hi x

/-- The carry of a sum. -/
theorem plus_step (o a b : List UInt8) (n i c : Nat) (x y : UInt8) (hi : i < n) (ha : a.length = n) (hb : b.length = n) (ho : o.length = n) (hx : a[i]? = some x) (hy : b[i]? = some y)
    (h0 : o[i]? = some 0) (hS : num o + c * Pb (n - 1 - i) = num (a.drop (i + 1)) + num (b.drop (i + 1))) :
    num (o.set i (UInt8.ofNat (c + (x.toNat + y.toNat)))) + (c + (x.toNat + y.toNat)) / 256 * Pb (n - i) = num (a.drop i) + num (b.drop i) := by
  have h1 := num_set_at ho h0 (UInt8.ofNat (c + (x.toNat + y.toNat)))
  rw [toNat_of, show (0 : UInt8).toNat = 0 from rfl, Nat.zero_mul, Nat.add_zero] at h1
  rw [h1, num_drop_at ha hx, num_drop_at hb hy]
  have e : n - i = (n - 1 - i) + 1 := by omega
  rw [e, Pb_succ]
  generalize x.toNat = x at *
  generalize y.toNat = y at *
  generalize Pb (n - 1 - i) = P at *
  have hd := Nat.div_add_mod (c + (x + y)) 256
  generalize (c + (x + y)) / 256 = q at *
  generalize (c + (x + y)) % 256 = r at *
  have h1 : r * P + q * (256 * P) = c * P + (x * P + y * P) := by
    rw [← Nat.mul_assoc, ← Nat.add_mul, ← Nat.add_mul, ← Nat.add_mul, Nat.mul_comm q, Nat.add_comm r, hd]
  omega

/-- The sum of numbers of n bytes, by its bytes and its carry. -/
theorem plus_end (o : List UInt8) (n c s : Nat) (ho : o.length = n) (h : num o + c * Pb n = s) : o = enc n s ∧ c = s / Pb n := by
  have hl := num_lt o
  rw [ho] at hl
  have hm : num o = s % Pb n := by rw [← h, Nat.add_mul_mod_self_right, Nat.mod_eq_of_lt hl]
  refine ⟨num_inj (by rw [enc_length, ho]) (by rw [num_enc, hm]), ?_⟩
  rw [← h, Nat.add_mul_div_right _ _ (Pb_pos n), Nat.div_eq_of_lt hl, Nat.zero_add]

/-- The borrow of a difference. -/
theorem minus_step (o a b : List UInt8) (n i : Nat) (c : Int) (x y : UInt8) (hi : i < n) (ha : a.length = n) (hb : b.length = n) (ho : o.length = n) (hx : a[i]? = some x) (hy : b[i]? = some y)
    (h0 : o[i]? = some 0) (hS : (num o : Int) + c * (Pb (n - 1 - i) : Nat) = (num (a.drop (i + 1)) : Int) - num (b.drop (i + 1))) :
    (num (o.set i (UInt8.ofNat ((c + ((x.toNat : Int) - y.toNat)) % 256).toNat)) : Int) + (c + ((x.toNat : Int) - y.toNat)) / 256 * (Pb (n - i) : Nat) = (num (a.drop i) : Int) - num (b.drop i) := by
  have h1 := num_set_at ho h0 (UInt8.ofNat ((c + ((x.toNat : Int) - y.toNat)) % 256).toNat)
  rw [toNat_of, show (0 : UInt8).toNat = 0 from rfl, Nat.zero_mul, Nat.add_zero] at h1
  rw [h1, num_drop_at ha hx, num_drop_at hb hy]
  have e : n - i = (n - 1 - i) + 1 := by omega
  rw [e, Pb_succ]
  generalize x.toNat = x at *
  generalize y.toNat = y at *
  generalize Pb (n - 1 - i) = P at *
  have hd := Int.mul_ediv_add_emod (c + ((x : Int) - y)) 256
  have hr := Int.emod_nonneg (c + ((x : Int) - y)) (by decide : (256 : Int) ≠ 0)
  have hr2 := Int.emod_lt_of_pos (c + ((x : Int) - y)) (by decide : (0 : Int) < 256)
  generalize (c + ((x : Int) - y)) / 256 = q at *
  generalize (c + ((x : Int) - y)) % 256 = r at *
  rw [Nat.mod_eq_of_lt (by omega : r.toNat < 256)]
  have hrn : ((r.toNat : Nat) : Int) = r := Int.toNat_of_nonneg hr
  simp only [Int.natCast_add, Int.natCast_mul, hrn]
  have h1 : r * (P : Int) + q * (256 * (P : Int)) = c * P + (x * P - y * P) := by
    have : r = c + ((x : Int) - y) - 256 * q := by omega
    rw [this]; grind
  grind

theorem minus_end (o : List UInt8) (n : Nat) (c : Int) (a b : Nat) (ho : o.length = n) (h : (num o : Int) + c * (Pb n : Nat) = (a : Int) - b) : o = enc n (((a : Int) - b) % (Pb n : Nat)).toNat := by
  have hl := num_lt o
  rw [ho] at hl
  have hm : (num o : Int) = ((a : Int) - b) % (Pb n : Nat) := by
    rw [← h, Int.add_mul_emod_self_right, Int.emod_eq_of_lt (by omega) (by omega)]
  apply eq_enc ho
  omega

/-- The sum or its difference from the modulus. -/
theorem added_end (L a b n : Nat) (ha : a < n) (hb : b < n) (hn : n < Pb L) :
    (if 0 < (a + b) / Pb L ∨ ¬ (a + b) % Pb L < n then (((((a + b) % Pb L : Nat) : Int) - n) % (Pb L : Nat)).toNat else (a + b) % Pb L) = (a + b) % n := by
  have hp := Pb_pos L
  by_cases h : a + b < n
  · have h1 : (a + b) / Pb L = 0 := Nat.div_eq_of_lt (by omega)
    have h2 : (a + b) % Pb L = a + b := Nat.mod_eq_of_lt (by omega)
    rw [h1, h2, if_neg (by omega), Nat.mod_eq_of_lt h]
  · have h3 : (a + b) % n = a + b - n := by rw [Nat.mod_eq_sub_mod (by omega), Nat.mod_eq_of_lt (by omega)]
    have h4 : 0 < (a + b) / Pb L ∨ ¬ (a + b) % Pb L < n := by
      rcases Nat.lt_or_ge (a + b) (Pb L) with h5 | h5
      · right; rw [Nat.mod_eq_of_lt h5]; omega
      · left; exact Nat.div_pos h5 hp
    rw [if_pos h4, h3]
    have h6 : (((a + b) % Pb L : Nat) : Int) = ((a + b : Nat) : Int) % (Pb L : Nat) := by simp
    rw [h6, Int.emod_sub_emod]
    have h7 : (((a + b : Nat) : Int) - n) = ((a + b - n : Nat) : Int) := by omega
    rw [h7, ← Int.natCast_emod, Int.toNat_natCast, Nat.mod_eq_of_lt (by omega)]

theorem added_cases (L a b n s : Nat) (ha : a < n) (hb : b < n) (hn : n < Pb L) (hs : a + b = s) :
    (s / Pb L = 0 ∧ s % Pb L < n ∧ s % Pb L = s % n) ∨ (s / Pb L = 0 ∧ ¬ s % Pb L < n ∧ ((((s % Pb L : Nat) : Int) - n) % (Pb L : Nat)).toNat = s % n) ∨ (s / Pb L = 1 ∧ ((((s % Pb L : Nat) : Int) - n) % (Pb L : Nat)).toNat = s % n) := by
  have h := added_end L a b n ha hb hn
  rw [hs] at h
  have h1 : s / Pb L < 2 := (Nat.div_lt_iff_lt_mul (Pb_pos L)).2 (by omega)
  by_cases h0 : s / Pb L = 0
  · by_cases h2 : s % Pb L < n
    · left
      rw [if_neg (by rw [h0]; rintro (h | h); exact absurd h (by decide); exact h h2)] at h
      exact ⟨h0, h2, h⟩
    · right; left
      rw [if_pos (.inr h2)] at h
      exact ⟨h0, h2, h⟩
  · right; right
    rw [if_pos (.inl (Nat.pos_of_ne_zero h0))] at h
    exact ⟨by generalize s / Pb L = q at h0 h1; omega, h⟩

/-- The bit i of bytes, from the highest. -/
theorem bit_at (b : List UInt8) (i : Nat) (h : i < 8 * b.length) (z : UInt8) (hz : b[i / 8]? = some z) : num b / 2 ^ (8 * b.length - (i + 1)) = 2 * (num b / 2 ^ (8 * b.length - i)) + z.toNat / 2 ^ (7 - i % 8) % 2 := by
  obtain ⟨hk, rfl⟩ := List.getElem?_eq_some_iff.1 hz
  have e1 : b = b.take (i / 8) ++ (b[i / 8] :: b.drop (i / 8 + 1)) := by rw [List.getElem_cons_drop, List.take_append_drop]
  have e2 : num b = (num (b.take (i / 8)) * 256 + (b[i / 8]).toNat) * Pb (b.length - 1 - i / 8) + num (b.drop (i / 8 + 1)) := by
    conv => lhs; rw [e1]
    rw [num_append, num_cons, List.length_cons, List.length_drop, Pb_succ]
    have : b.length - (i / 8 + 1) = b.length - 1 - i / 8 := by omega
    rw [this, Nat.add_mul, ← Nat.mul_assoc, Nat.add_assoc]
  have hr := num_lt (b.drop (i / 8 + 1))
  rw [List.length_drop, show b.length - (i / 8 + 1) = b.length - 1 - i / 8 by omega] at hr
  generalize (b[i / 8]).toNat = x at *
  generalize num (b.take (i / 8)) = t at *
  generalize num (b.drop (i / 8 + 1)) = r at *
  have p1 : 8 * b.length - (i + 1) = 8 * (b.length - 1 - i / 8) + (7 - i % 8) := by omega
  have hbit : num b / 2 ^ (8 * b.length - (i + 1)) = (t * 256 + x) / 2 ^ (7 - i % 8) := by
    rw [p1, Nat.pow_add, ← Nat.div_div_eq_div_mul, ← Pb_two, e2, Nat.add_comm, Nat.add_mul_div_right _ _ (Pb_pos _), Nat.div_eq_of_lt hr, Nat.zero_add]
  have h2 : num b / 2 ^ (8 * b.length - i) = num b / 2 ^ (8 * b.length - (i + 1)) / 2 := by
    rw [Nat.div_div_eq_div_mul, ← Nat.pow_succ]; congr 2; omega
  rw [h2, hbit]
  have h3 : (t * 256 + x) / 2 ^ (7 - i % 8) % 2 = x / 2 ^ (7 - i % 8) % 2 := by
    have h4 : t * 256 = t * 2 ^ (i % 8) * 2 * 2 ^ (7 - i % 8) := by
      rw [Nat.mul_assoc, Nat.mul_assoc, ← Nat.pow_succ', ← Nat.pow_add, show i % 8 + (7 - i % 8).succ = 8 by omega]
    rw [h4, Nat.add_comm, Nat.add_mul_div_right _ _ (Nat.pow_pos (by decide)), Nat.add_mul_mod_self_right]
  omega

/-- One round of the product modulo n. -/
theorem times_step (t x a n : Nat) (hx : x < 2) : ((t * a % n + t * a % n) % n + x * a) % n = ((2 * t + x) * a) % n := by
  rw [Nat.mod_add_mod]
  rw [Nat.add_assoc, Nat.mod_add_mod, Nat.add_left_comm, Nat.mod_add_mod]
  congr 1
  rw [Nat.add_mul, Nat.two_mul, Nat.add_mul]; omega

/-- The product's inner carry. -/
theorem prod_step (o : List UInt8) (n i c t V m : Nat) (z : UInt8) (hl : o.length = n) (hz : o[i]? = some z) (ht : n - 1 - i = t) (hS : num o + c * Pb t = V) :
    num (o.set i (UInt8.ofNat (c + (z.toNat + m)))) + (c + (z.toNat + m)) / 256 * Pb (t + 1) = V + m * Pb t := by
  have h1 := num_set_at hl hz (UInt8.ofNat (c + (z.toNat + m)))
  rw [toNat_of, ht] at h1
  rw [Pb_succ]
  generalize z.toNat = z at *
  have hd := Nat.div_add_mod (c + (z + m)) 256
  generalize num (o.set i (UInt8.ofNat (c + (z + m)))) = O at *
  generalize (c + (z + m)) / 256 = q at *
  generalize (c + (z + m)) % 256 = r at *
  generalize Pb t = P at *
  have h2 : r * P + q * (256 * P) = c * P + (z * P + m * P) := by
    rw [← Nat.mul_assoc, ← Nat.add_mul, ← Nat.add_mul, ← Nat.add_mul, Nat.mul_comm q, Nat.add_comm r, hd]
  omega

/-- Bits of a number of bytes without noughts ahead. -/
theorem bitLen_cons (x : UInt8) (xs : List UInt8) (h : x ≠ 0) : bitLen (num (x :: xs)) = 8 * xs.length + bitLen x.toNat := by
  have hx : x.toNat ≠ 0 := fun e => h (UInt8.toNat_inj.1 (by simpa using e))
  have hl := num_lt xs
  have key : ∀ k, 8 * xs.length ≤ k → (bitLen (num (x :: xs)) ≤ k ↔ 8 * xs.length + bitLen x.toNat ≤ k) := by
    intro k hk
    obtain ⟨j, rfl⟩ := Nat.exists_eq_add_of_le hk
    rw [bitLen_le, Nat.add_le_add_iff_left, bitLen_le, num_cons, Nat.pow_add, ← Pb_two]
    generalize Pb xs.length = P at *
    constructor
    · intro h1
      apply Classical.byContradiction
      intro hc
      have := Nat.mul_le_mul_right P (show 2 ^ j ≤ x.toNat by omega)
      rw [Nat.mul_comm P] at h1; omega
    · intro h1
      have := Nat.mul_le_mul_right P (show x.toNat + 1 ≤ 2 ^ j by omega)
      rw [Nat.add_mul, Nat.one_mul] at this
      rw [Nat.mul_comm P]; omega
  have a := (key _ (Nat.le_add_right _ _)).2 (Nat.le_refl _)
  have b1 : 8 * xs.length ≤ bitLen (num (x :: xs)) := by
    apply Classical.byContradiction
    intro hc
    have h2 := (bitLen_le (num (x :: xs)) (8 * xs.length)).1 (by omega)
    rw [← Pb_two, num_cons] at h2
    have := Nat.mul_le_mul_right (Pb xs.length) (show 1 ≤ x.toNat by omega)
    omega
  have b := (key _ b1).1 (Nat.le_refl _)
  omega

theorem bitLen_bytes (bs : List UInt8) (k : Nat) (h : bs.length ≤ k) : bitLen (num bs) ≤ 8 * k := by
  have h2 := num_lt bs
  have h3 := Pb_le h
  exact (bitLen_le (num bs) (8 * k)).2 (by rw [← Pb_two]; exact Nat.lt_of_lt_of_le h2 h3)

/-- Division by a small number, a byte at a time. -/
theorem over_step (p b n : Nat) (hn : 0 < n) : (256 * (p % n) + b) % n = (p * 256 + b) % n ∧ (p * 256 + b) / n = p / n * 256 + (256 * (p % n) + b) / n := by
  have hd := Nat.div_add_mod p n
  have e : p * 256 + b = n * (p / n * 256) + (256 * (p % n) + b) := by
    conv => lhs; rw [← hd]
    rw [Nat.add_mul, Nat.mul_assoc, Nat.mul_comm 256, Nat.add_assoc]
  constructor
  · rw [e, Nat.mul_add_mod]
  · rw [e, Nat.mul_add_div hn]
theorem over_byte (p b n : Nat) (hn : 0 < n) (hb : b ≤ 255) : (256 * (p % n) + b) / n < 256 := by
  have := Nat.mod_lt p hn
  rw [Nat.div_lt_iff_lt_mul hn]; omega

/-- One bit more of a number modulo another one. -/
theorem modulo_step (t x n : Nat) (hx : x < 2) (hn : 0 < n) : (2 * t + x) % n = if 2 * (t % n) + x < n then 2 * (t % n) + x else 2 * (t % n) + x - n := by
  have hd := Nat.div_add_mod t n
  have hl := Nat.mod_lt t hn
  have e : (2 * t + x) % n = (2 * (t % n) + x) % n := by
    conv => lhs; rw [← hd]
    rw [Nat.mul_add, Nat.mul_left_comm, Nat.add_assoc, Nat.mul_add_mod]
  rw [e]
  split
  · next h => exact Nat.mod_eq_of_lt h
  · next h => rw [Nat.mod_eq_sub_mod (by omega), Nat.mod_eq_of_lt (by omega)]

/-- Which of two numbers is less, by their lengths and their bytes. -/
theorem less_len {xs ys : List UInt8} (hx : Tight xs) (hy : Tight ys) (h : xs.length ≠ ys.length) : (xs.length < ys.length) ↔ num xs < num ys := by
  constructor
  · intro h1
    have h2 := num_lt xs
    cases ys with
    | nil => simp at h1
    | cons y ys =>
      have h3 := tight_ge hy
      have := Pb_le (show xs.length ≤ ys.length by rw [List.length_cons] at h1; omega)
      omega
  · intro h1
    apply Classical.byContradiction
    intro hc
    cases xs with
    | nil => simp at h hc; exact absurd hc (by intro e; exact h (by rw [e]; rfl))
    | cons x xs =>
      have h3 := tight_ge hx
      have h2 := num_lt ys
      have := Pb_le (show ys.length ≤ xs.length by rw [List.length_cons] at h hc; omega)
      omega

/-- 2 to the n less 1, in bytes. -/
def mers (n : Nat) : List UInt8 := (if 0 < n % 8 then [UInt8.ofNat (2 ^ (n % 8) - 1)] else []) ++ List.replicate (n / 8) 255

end Go.Proofs.Ytmheoenieaemmaa
