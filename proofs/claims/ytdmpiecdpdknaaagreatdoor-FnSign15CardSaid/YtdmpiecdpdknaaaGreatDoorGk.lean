/-
  Numbers in bytes, the highest first: the plain laws.
  The numbers of the specification: the plain laws of its loops.
-/
namespace Go.Proofs.YtdmpiecdpdknaaaGreatDoor

/-- 256 to the k. -/
def Pb (k : Nat) : Nat := 256 ^ k
theorem Pb_zero : Pb 0 = 1 := rfl
theorem Pb_succ (k : Nat) : Pb (k + 1) = 256 * Pb k := by unfold Pb; rw [Nat.pow_succ, Nat.mul_comm]
theorem Pb_add (a b : Nat) : Pb (a + b) = Pb a * Pb b := by unfold Pb; exact Nat.pow_add _ _ _
theorem Pb_pos (k : Nat) : 0 < Pb k := by unfold Pb; exact Nat.pow_pos (by decide)
theorem Pb_le {a b : Nat} (h : a ≤ b) : Pb a ≤ Pb b := by unfold Pb; exact Nat.pow_le_pow_right (by decide) h
theorem Pb_lt {a b : Nat} (h : a < b) : Pb a < Pb b := by
  have := Pb_le (show a + 1 ≤ b from h)
  have := Pb_pos a
  rw [Pb_succ] at *; omega
theorem Pb_lt_inv {a b : Nat} (h : Pb a < Pb b) : a < b := by
  apply Classical.byContradiction
  intro hc
  have := Pb_le (show b ≤ a by omega)
  omega

/-- What bytes stand for. -/
def num : List UInt8 → Nat
  | [] => 0
  | x :: xs => x.toNat * Pb xs.length + num xs
theorem num_nil : num [] = 0 := rfl
theorem num_cons (x : UInt8) (xs : List UInt8) : num (x :: xs) = x.toNat * Pb xs.length + num xs := rfl
theorem num_append (xs ys : List UInt8) : num (xs ++ ys) = num xs * Pb ys.length + num ys := by
  induction xs with
  | nil => simp [num]
  | cons x xs ih => rw [List.cons_append, num, ih, num, List.length_append, Pb_add, Nat.add_mul, Nat.mul_assoc, Nat.add_assoc]
theorem num_snoc (xs : List UInt8) (x : UInt8) : num (xs ++ [x]) = num xs * 256 + x.toNat := by
  rw [num_append]; simp [num, Pb]
theorem num_lt (xs : List UInt8) : num xs < Pb xs.length := by
  induction xs with
  | nil => simp [num, Pb]
  | cons x xs ih =>
    have hx : x.toNat ≤ 255 := by have := x.toNat_lt; omega
    rw [num, List.length_cons, Pb_succ]
    have := Nat.mul_le_mul_right (Pb xs.length) hx
    omega
theorem num_zeros (n : Nat) : num (List.replicate n 0) = 0 := by
  induction n with
  | zero => rfl
  | succ n ih => rw [List.replicate_succ, num, ih]; simp
theorem num_inj {xs ys : List UInt8} (hl : xs.length = ys.length) (h : num xs = num ys) : xs = ys := by
  induction xs generalizing ys with
  | nil => cases ys with
    | nil => rfl
    | cons y ys => simp at hl
  | cons x xs ih => cases ys with
    | nil => simp at hl
    | cons y ys =>
      have hl' : xs.length = ys.length := by simpa using hl
      rw [num, num, hl'] at h
      have h1 := num_lt xs
      have h2 := num_lt ys
      rw [hl'] at h1
      have a := congrArg (· / Pb ys.length) h
      simp only [Nat.mul_comm _ (Pb ys.length), Nat.mul_add_div (Pb_pos _), Nat.div_eq_of_lt h1, Nat.div_eq_of_lt h2, Nat.add_zero] at a
      rw [a] at h
      rw [UInt8.toNat_inj.1 a, ih hl' (by omega)]

/-- Without noughts ahead. -/
def trim : List UInt8 → List UInt8
  | [] => []
  | x :: xs => if x = 0 then trim xs else x :: xs
theorem num_trim (xs : List UInt8) : num (trim xs) = num xs := by
  induction xs with
  | nil => rfl
  | cons x xs ih =>
    unfold trim
    split
    · next h => rw [ih, num, h]; simp
    · rfl
theorem trim_le (xs : List UInt8) : (trim xs).length ≤ xs.length := by
  induction xs with
  | nil => exact Nat.le_refl _
  | cons x xs ih =>
    unfold trim
    split
    · rw [List.length_cons]; omega
    · exact Nat.le_refl _
/-- The first byte is not nought. -/
def Tight : List UInt8 → Prop
  | [] => True
  | x :: _ => x ≠ 0
theorem trim_tight (xs : List UInt8) : Tight (trim xs) := by
  induction xs with
  | nil => trivial
  | cons x xs ih =>
    unfold trim
    split
    · exact ih
    · next h => exact h
theorem trim_of_tight {xs : List UInt8} (h : Tight xs) : trim xs = xs := by
  cases xs with
  | nil => rfl
  | cons x xs => unfold trim; rw [if_neg h]
theorem trim_trim (xs : List UInt8) : trim (trim xs) = trim xs := trim_of_tight (trim_tight xs)
theorem tight_ge {x : UInt8} {xs : List UInt8} (h : Tight (x :: xs)) : Pb xs.length ≤ num (x :: xs) := by
  have hx : 1 ≤ x.toNat := by
    have : x.toNat ≠ 0 := fun e => h (UInt8.toNat_inj.1 (by simpa using e))
    omega
  rw [num]
  have := Nat.mul_le_mul_right (Pb xs.length) hx
  omega
theorem tight_len {xs : List UInt8} (h : Tight xs) (k : Nat) : xs.length ≤ k ↔ num xs < Pb k := by
  cases xs with
  | nil => simp [num, Pb_pos]
  | cons x xs =>
    have h1 := tight_ge h
    have h2 := num_lt (x :: xs)
    constructor
    · intro hk; exact Nat.lt_of_lt_of_le h2 (Pb_le hk)
    · intro hk
      have := Pb_lt_inv (Nat.lt_of_le_of_lt h1 hk)
      rw [List.length_cons]; omega
theorem tight_inj {xs ys : List UInt8} (hx : Tight xs) (hy : Tight ys) (h : num xs = num ys) : xs = ys := by
  apply num_inj _ h
  apply Nat.le_antisymm
  · exact (tight_len hx _).2 (h ▸ num_lt ys)
  · exact (tight_len hy _).2 (h ▸ num_lt xs)
theorem trim_eq {xs ys : List UInt8} : trim xs = trim ys ↔ num xs = num ys := by
  constructor
  · intro h; rw [← num_trim xs, h, num_trim]
  · intro h; exact tight_inj (trim_tight _) (trim_tight _) (by rw [num_trim, num_trim, h])
theorem trim_nil {xs : List UInt8} : trim xs = [] ↔ num xs = 0 := by
  rw [show ([] : List UInt8) = trim [] from rfl, trim_eq, num_nil]

/-- A number in so many bytes. -/
def enc : Nat → Nat → List UInt8
  | 0, _ => []
  | n + 1, v => enc n (v / 256) ++ [UInt8.ofNat v]
theorem enc_length (n v : Nat) : (enc n v).length = n := by
  induction n generalizing v with
  | zero => rfl
  | succ n ih => simp [enc, ih]
theorem num_enc (n v : Nat) : num (enc n v) = v % Pb n := by
  induction n generalizing v with
  | zero => simp [enc, num, Pb, Nat.mod_one]
  | succ n ih =>
    rw [enc, num_snoc, ih, UInt8.toNat_ofNat', Pb_succ, Nat.mod_mul]
    omega
theorem num_enc_of_lt {n v : Nat} (h : v < Pb n) : num (enc n v) = v := by rw [num_enc, Nat.mod_eq_of_lt h]
theorem enc_num {xs : List UInt8} {n : Nat} (h : xs.length = n) : enc n (num xs) = xs := by
  subst h
  exact num_inj (enc_length _ _) (num_enc_of_lt (num_lt xs))
theorem eq_enc {xs : List UInt8} {n v : Nat} (h : xs.length = n) (hv : num xs = v) : xs = enc n v := by rw [← hv, enc_num h]
theorem enc_zero (n : Nat) : enc n 0 = List.replicate n 0 := (eq_enc List.length_replicate (num_zeros n)).symm

/-- A number without noughts ahead. -/
def encT (v : Nat) : List UInt8 := trim (enc v v)
theorem lt_Pb (v : Nat) : v < Pb v := by
  induction v with
  | zero => simp [Pb]
  | succ v ih => rw [Pb_succ]; omega
theorem num_encT (v : Nat) : num (encT v) = v := by rw [encT, num_trim, num_enc_of_lt (lt_Pb v)]
theorem encT_tight (v : Nat) : Tight (encT v) := trim_tight _
theorem trim_eq_encT (xs : List UInt8) : trim xs = encT (num xs) := tight_inj (trim_tight _) (encT_tight _) (by rw [num_trim, num_encT])
theorem tight_eq_encT {xs : List UInt8} (h : Tight xs) : xs = encT (num xs) := by rw [← trim_eq_encT, trim_of_tight h]
theorem encT_inj {a b : Nat} (h : encT a = encT b) : a = b := by rw [← num_encT a, h, num_encT]
theorem encT_len (v k : Nat) : (encT v).length ≤ k ↔ v < Pb k := by rw [tight_len (encT_tight v), num_encT]
theorem encT_zero : encT 0 = [] := rfl
theorem enc_cons (n v : Nat) : enc (n + 1) v = UInt8.ofNat (v / Pb n) :: enc n v := by
  induction n generalizing v with
  | zero => simp [enc, Pb]
  | succ n ih =>
    rw [enc, ih, enc, List.cons_append, Pb_succ, Nat.div_div_eq_div_mul]

/-- Which of two numbers is less: by their lengths, and by their bytes. -/
theorem lex_lt (xs ys : List UInt8) (hl : xs.length = ys.length) : (num xs < num ys) ↔ xs < ys := by
  induction xs generalizing ys with
  | nil => cases ys with
    | nil => simp [num]
    | cons y ys => simp at hl
  | cons x xs ih => cases ys with
    | nil => simp at hl
    | cons y ys =>
      have hl' : xs.length = ys.length := by simpa using hl
      have h1 := num_lt xs
      have h2 := num_lt ys
      rw [hl'] at h1
      rw [num, num, hl', List.cons_lt_cons_iff, ← ih ys hl']
      rcases Nat.lt_trichotomy x.toNat y.toNat with h | h | h
      · have a := Nat.mul_le_mul_right (Pb ys.length) (show x.toNat + 1 ≤ y.toNat from h)
        rw [Nat.add_mul, Nat.one_mul] at a
        constructor
        · intro _; exact .inl (UInt8.lt_iff_toNat_lt.2 h)
        · intro _; omega
      · have e : x = y := UInt8.toNat_inj.1 h
        subst e
        constructor
        · intro h; exact .inr ⟨rfl, by omega⟩
        · rintro (h | ⟨_, h⟩)
          · exact absurd h (by simp)
          · omega
      · have a := Nat.mul_le_mul_right (Pb ys.length) (show y.toNat + 1 ≤ x.toNat from h)
        rw [Nat.add_mul, Nat.one_mul] at a
        constructor
        · intro _; omega
        · rintro (h' | ⟨rfl, h'⟩)
          · have := UInt8.lt_iff_toNat_lt.1 h'; omega
          · omega

/-- How many bits a number has. -/
def bitLen (v : Nat) : Nat := if v = 0 then 0 else Nat.log2 v + 1
theorem bitLen_le (v k : Nat) : bitLen v ≤ k ↔ v < 2 ^ k := by
  unfold bitLen
  split
  · next h => subst h; simp [Nat.pow_pos]
  · next h => rw [Nat.add_one_le_iff]; exact Nat.log2_lt h
theorem bitLen_eq {v k : Nat} (h1 : 2 ^ k ≤ v) (h2 : v < 2 ^ (k + 1)) : bitLen v = k + 1 := by
  have a := (bitLen_le v (k + 1)).2 h2
  have b : ¬ bitLen v ≤ k := fun e => by have := (bitLen_le v k).1 e; omega
  omega
theorem bitLen_zero : bitLen 0 = 0 := rfl
theorem Pb_two (k : Nat) : Pb k = 2 ^ (8 * k) := by rw [Nat.pow_mul]; rfl
theorem bitLen_half (v : Nat) (h : 0 < v) : bitLen v = bitLen (v / 2) + 1 := by
  have e := Nat.div_add_mod v 2
  have h0 : ∀ k, bitLen v ≤ k + 1 ↔ bitLen (v / 2) ≤ k := fun k => by
    rw [bitLen_le, bitLen_le, Nat.pow_succ]; omega
  have h1 : 0 < bitLen v := by
    apply Nat.pos_of_ne_zero
    intro hc
    have := (bitLen_le v 0).1 (by omega)
    simp at this; omega
  have a := (h0 (bitLen v - 1)).1 (by omega)
  have b := (h0 (bitLen (v / 2))).2 (Nat.le_refl _)
  omega
theorem encT_length_bits (v : Nat) : (encT v).length = (bitLen v + 7) / 8 := by
  have h : ∀ k, (encT v).length ≤ k ↔ bitLen v ≤ 8 * k := fun k => by rw [encT_len, bitLen_le, Pb_two]
  have a := (h ((bitLen v + 7) / 8)).2 (by omega)
  have b := (h (encT v).length).1 (Nat.le_refl _)
  omega

end Go.Proofs.YtdmpiecdpdknaaaGreatDoor
namespace Go.Proofs.YtdmpiecdpdknaaaGreatDoor

theorem num_set (xs : List UInt8) (i : Nat) (h : i < xs.length) (x : UInt8) :
    num (xs.set i x) + (xs[i]).toNat * Pb (xs.length - 1 - i) = num xs + x.toNat * Pb (xs.length - 1 - i) := by
  induction xs generalizing i with
  | nil => simp at h
  | cons y ys ih =>
    cases i with
    | zero => simp only [List.set_cons_zero, num_cons, List.getElem_cons_zero, List.length_cons, Nat.add_sub_cancel, Nat.sub_zero]; omega
    | succ i =>
      have hi : i < ys.length := by simpa using h
      have e : (y :: ys).length - 1 - (i + 1) = ys.length - 1 - i := by rw [List.length_cons]; omega
      rw [e]
      simp only [List.set_cons_succ, num_cons, List.getElem_cons_succ, List.length_set]
      have := ih i hi
      omega
theorem num_drop (xs : List UInt8) (i : Nat) (h : i < xs.length) : num (xs.drop i) = (xs[i]).toNat * Pb (xs.length - 1 - i) + num (xs.drop (i + 1)) := by
  rw [List.drop_eq_getElem_cons h, num_cons, List.length_drop]
  have e : xs.length - (i + 1) = xs.length - 1 - i := by omega
  rw [e]
theorem num_drop_all (xs : List UInt8) : num (xs.drop xs.length) = 0 := by simp [num]
theorem byte_le (x : UInt8) : x.toNat ≤ 255 := by have := x.toNat_lt; omega
theorem toNat_of (n : Nat) : (UInt8.ofNat n).toNat = n % 256 := by simp

theorem num_drop_at {xs : List UInt8} {i n : Nat} {x : UInt8} (hl : xs.length = n) (h : xs[i]? = some x) : num (xs.drop i) = x.toNat * Pb (n - 1 - i) + num (xs.drop (i + 1)) := by
  obtain ⟨hi, rfl⟩ := List.getElem?_eq_some_iff.1 h
  rw [num_drop xs i hi, hl]
theorem num_set_at {xs : List UInt8} {i n : Nat} {z : UInt8} (hl : xs.length = n) (h : xs[i]? = some z) (x : UInt8) : num (xs.set i x) + z.toNat * Pb (n - 1 - i) = num xs + x.toNat * Pb (n - 1 - i) := by
  obtain ⟨hi, rfl⟩ := List.getElem?_eq_some_iff.1 h
  rw [← hl]; exact num_set xs i hi x

/-- The carry of a sum. -/
theorem plus_step (o a b : List UInt8) (n i c : Nat) (x y : UInt8) (hi : i < n) (ha : a.length = n) (hb : b.length = n) (ho : o.length = n) (hx : a[i]? = some x) (hy : b[i]? = some y)
    (h0 : o[i]? = some 0) (hS : num o + c * Pb (n - 1 - i) = num (a.drop (i + 1)) + num (b.drop (i + 1))) :
    num (o.set i (UInt8.ofNat (c + (x.toNat + y.toNat)))) + (c + (x.toNat + y.toNat)) / 256 * Pb (n - i) = num (a.drop i) + num (b.drop i) := by
  have h1 := num_set_at ho h0 (UInt8.ofNat (c + (x.toNat + y.toNat)))
  rw [toNat_of, show (0 : UInt8).toNat = 0 from rfl, Nat.zero_mul, Nat.add_zero] at h1
  rw [h1, num_drop_at ha hx, num_drop_at hb hy]
  have e : n - i = (n - 1 - i) + 1 := by omega
  rw [e, Pb_succ]
  generalize x.toNat = x at *
  generalize y.toNat = y at *
  generalize Pb (n - 1 - i) = P at *
  have hd := Nat.div_add_mod (c + (x + y)) 256
  generalize (c + (x + y)) / 256 = q at *
  generalize (c + (x + y)) % 256 = r at *
  have h1 : r * P + q * (256 * P) = c * P + (x * P + y * P) := by
    rw [← Nat.mul_assoc, ← Nat.add_mul, ← Nat.add_mul, ← Nat.add_mul, Nat.mul_comm q, Nat.add_comm r, hd]
  omega

/-- The sum of numbers of n bytes, by its bytes and its carry. -/
theorem plus_end (o : List UInt8) (n c s : Nat) (ho : o.length = n) (h : num o + c * Pb n = s) : o = enc n s ∧ c = s / Pb n := by
  have hl := num_lt o
  rw [ho] at hl
  have hm : num o = s % Pb n := by rw [← h, Nat.add_mul_mod_self_right, Nat.mod_eq_of_lt hl]
  refine ⟨num_inj (by rw [enc_length, ho]) (by rw [num_enc, hm]), ?_⟩
  rw [← h, Nat.add_mul_div_right _ _ (Pb_pos n), Nat.div_eq_of_lt hl, Nat.zero_add]

/-- The borrow of a difference. -/
theorem minus_step (o a b : List UInt8) (n i : Nat) (c : Int) (x y : UInt8) (hi : i < n) (ha : a.length = n) (hb : b.length = n) (ho : o.length = n) (hx : a[i]? = some x) (hy : b[i]? = some y)
    (h0 : o[i]? = some 0) (hS : (num o : Int) + c * (Pb (n - 1 - i) : Nat) = (num (a.drop (i + 1)) : Int) - num (b.drop (i + 1))) :
    (num (o.set i (UInt8.ofNat ((c + ((x.toNat : Int) - y.toNat)) % 256).toNat)) : Int) + (c + ((x.toNat : Int) - y.toNat)) / 256 * (Pb (n - i) : Nat) = (num (a.drop i) : Int) - num (b.drop i) := by
  have h1 := num_set_at ho h0 (UInt8.ofNat ((c + ((x.toNat : Int) - y.toNat)) % 256).toNat)
  rw [toNat_of, show (0 : UInt8).toNat = 0 from rfl, Nat.zero_mul, Nat.add_zero] at h1
  rw [h1, num_drop_at ha hx, num_drop_at hb hy]
  have e : n - i = (n - 1 - i) + 1 := by omega
  rw [e, Pb_succ]
  generalize x.toNat = x at *
  generalize y.toNat = y at *
  generalize Pb (n - 1 - i) = P at *
  have hd := Int.mul_ediv_add_emod (c + ((x : Int) - y)) 256
  have hr := Int.emod_nonneg (c + ((x : Int) - y)) (by decide : (256 : Int) ≠ 0)
  have hr2 := Int.emod_lt_of_pos (c + ((x : Int) - y)) (by decide : (0 : Int) < 256)
  generalize (c + ((x : Int) - y)) / 256 = q at *
  generalize (c + ((x : Int) - y)) % 256 = r at *
  rw [Nat.mod_eq_of_lt (by omega : r.toNat < 256)]
  have hrn : ((r.toNat : Nat) : Int) = r := Int.toNat_of_nonneg hr
  simp only [Int.natCast_add, Int.natCast_mul, hrn]
  have h1 : r * (P : Int) + q * (256 * (P : Int)) = c * P + (x * P - y * P) := by
    have : r = c + ((x : Int) - y) - 256 * q := by omega
    rw [this]; grind
  grind

theorem minus_end (o : List UInt8) (n : Nat) (c : Int) (a b : Nat) (ho : o.length = n) (h : (num o : Int) + c * (Pb n : Nat) = (a : Int) - b) : o = enc n (((a : Int) - b) % (Pb n : Nat)).toNat := by
  have hl := num_lt o
  rw [ho] at hl
  have hm : (num o : Int) = ((a : Int) - b) % (Pb n : Nat) := by
    rw [← h, Int.add_mul_emod_self_right, Int.emod_eq_of_lt (by omega) (by omega)]
  apply eq_enc ho
  omega

/-- The sum or its difference from the modulus. -/
theorem added_end (L a b n : Nat) (ha : a < n) (hb : b < n) (hn : n < Pb L) :
    (if 0 < (a + b) / Pb L ∨ ¬ (a + b) % Pb L < n then (((((a + b) % Pb L : Nat) : Int) - n) % (Pb L : Nat)).toNat else (a + b) % Pb L) = (a + b) % n := by
  have hp := Pb_pos L
  by_cases h : a + b < n
  · have h1 : (a + b) / Pb L = 0 := Nat.div_eq_of_lt (by omega)
    have h2 : (a + b) % Pb L = a + b := Nat.mod_eq_of_lt (by omega)
    rw [h1, h2, if_neg (by omega), Nat.mod_eq_of_lt h]
  · have h3 : (a + b) % n = a + b - n := by rw [Nat.mod_eq_sub_mod (by omega), Nat.mod_eq_of_lt (by omega)]
    have h4 : 0 < (a + b) / Pb L ∨ ¬ (a + b) % Pb L < n := by
      rcases Nat.lt_or_ge (a + b) (Pb L) with h5 | h5
      · right; rw [Nat.mod_eq_of_lt h5]; omega
      · left; exact Nat.div_pos h5 hp
    rw [if_pos h4, h3]
    have h6 : (((a + b) % Pb L : Nat) : Int) = ((a + b : Nat) : Int) % (Pb L : Nat) := by simp
    rw [h6, Int.emod_sub_emod]
    have h7 : (((a + b : Nat) : Int) - n) = ((a + b - n : Nat) : Int) := by omega
    rw [h7, ← Int.natCast_emod, Int.toNat_natCast, Nat.mod_eq_of_lt (by omega)]

theorem added_cases (L a b n s : Nat) (ha : a < n) (hb : b < n) (hn : n < Pb L) (hs : a + b = s) :
    (s / Pb L = 0 ∧ s % Pb L < n ∧ s % Pb L = s % n) ∨ (s / Pb L = 0 ∧ ¬ s % Pb L < n ∧ ((((s % Pb L : Nat) : Int) - n) % (Pb L : Nat)).toNat = s % n) ∨ (s / Pb L = 1 ∧ ((((s % Pb L : Nat) : Int) - n) % (Pb L : Nat)).toNat = s % n) := by
  have h := added_end L a b n ha hb hn
  rw [hs] at h
  have h1 : s / Pb L < 2 := (Nat.div_lt_iff_lt_mul (Pb_pos L)).2 (by omega)
  by_cases h0 : s / Pb L = 0
  · by_cases h2 : s % Pb L < n
    · left
      rw [if_neg (by rw [h0]; rintro (h | h); exact absurd h (by decide); exact h h2)] at h
      exact ⟨h0, h2, h⟩
    · right; left
      rw [if_pos (.inr h2)] at h
      exact ⟨h0, h2, h⟩
  · right; right
    rw [if_pos (.inl (Nat.pos_of_ne_zero h0))] at h
    exact ⟨by generalize s / Pb L = q at h0 h1; omega, h⟩

/-- The bit i of bytes, from the highest. -/
theorem bit_at (b : List UInt8) (i : Nat) (h : i < 8 * b.length) (z : UInt8) (hz : b[i / 8]? = some z) : num b / 2 ^ (8 * b.length - (i + 1)) = 2 * (num b / 2 ^ (8 * b.length - i)) + z.toNat / 2 ^ (7 - i % 8) % 2 := by
  obtain ⟨hk, rfl⟩ := List.getElem?_eq_some_iff.1 hz
  have e1 : b = b.take (i / 8) ++ (b[i / 8] :: b.drop (i / 8 + 1)) := by rw [List.getElem_cons_drop, List.take_append_drop]
  have e2 : num b = (num (b.take (i / 8)) * 256 + (b[i / 8]).toNat) * Pb (b.length - 1 - i / 8) + num (b.drop (i / 8 + 1)) := by
    conv => lhs; rw [e1]
    rw [num_append, num_cons, List.length_cons, List.length_drop, Pb_succ]
    have : b.length - (i / 8 + 1) = b.length - 1 - i / 8 := by omega
    rw [this, Nat.add_mul, ← Nat.mul_assoc, Nat.add_assoc]
  have hr := num_lt (b.drop (i / 8 + 1))
  rw [List.length_drop, show b.length - (i / 8 + 1) = b.length - 1 - i / 8 by omega] at hr
  generalize (b[i / 8]).toNat = x at *
  generalize num (b.take (i / 8)) = t at *
  generalize num (b.drop (i / 8 + 1)) = r at *
  have p1 : 8 * b.length - (i + 1) = 8 * (b.length - 1 - i / 8) + (7 - i % 8) := by omega
  have hbit : num b / 2 ^ (8 * b.length - (i + 1)) = (t * 256 + x) / 2 ^ (7 - i % 8) := by
    rw [p1, Nat.pow_add, ← Nat.div_div_eq_div_mul, ← Pb_two, e2, Nat.add_comm, Nat.add_mul_div_right _ _ (Pb_pos _), Nat.div_eq_of_lt hr, Nat.zero_add]
  have h2 : num b / 2 ^ (8 * b.length - i) = num b / 2 ^ (8 * b.length - (i + 1)) / 2 := by
    rw [Nat.div_div_eq_div_mul, ← Nat.pow_succ]; congr 2; omega
  rw [h2, hbit]
  have h3 : (t * 256 + x) / 2 ^ (7 - i % 8) % 2 = x / 2 ^ (7 - i % 8) % 2 := by
    have h4 : t * 256 = t * 2 ^ (i % 8) * 2 * 2 ^ (7 - i % 8) := by
      rw [Nat.mul_assoc, Nat.mul_assoc, ← Nat.pow_succ', ← Nat.pow_add, show i % 8 + (7 - i % 8).succ = 8 by omega]
    rw [h4, Nat.add_comm, Nat.add_mul_div_right _ _ (Nat.pow_pos (by decide)), Nat.add_mul_mod_self_right]
  omega

/-- One round of the product modulo n. -/
theorem times_step (t x a n : Nat) (hx : x < 2) : ((t * a % n + t * a % n) % n + x * a) % n = ((2 * t + x) * a) % n := by
  rw [Nat.mod_add_mod]
  rw [Nat.add_assoc, Nat.mod_add_mod, Nat.add_left_comm, Nat.mod_add_mod]
  congr 1
  rw [Nat.add_mul, Nat.two_mul, Nat.add_mul]; omega

/-- The product's inner carry. -/
theorem prod_step (o : List UInt8) (n i c t V m : Nat) (z : UInt8) (hl : o.length = n) (hz : o[i]? = some z) (ht : n - 1 - i = t) (hS : num o + c * Pb t = V) :
    num (o.set i (UInt8.ofNat (c + (z.toNat + m)))) + (c + (z.toNat + m)) / 256 * Pb (t + 1) = V + m * Pb t := by
  have h1 := num_set_at hl hz (UInt8.ofNat (c + (z.toNat + m)))
  rw [toNat_of, ht] at h1
  rw [Pb_succ]
  generalize z.toNat = z at *
  have hd := Nat.div_add_mod (c + (z + m)) 256
  generalize num (o.set i (UInt8.ofNat (c + (z + m)))) = O at *
  generalize (c + (z + m)) / 256 = q at *
  generalize (c + (z + m)) % 256 = r at *
  generalize Pb t = P at *
  have h2 : r * P + q * (256 * P) = c * P + (z * P + m * P) := by
    rw [← Nat.mul_assoc, ← Nat.add_mul, ← Nat.add_mul, ← Nat.add_mul, Nat.mul_comm q, Nat.add_comm r, hd]
  omega

/-- Bits of a number of bytes without noughts ahead. -/
theorem bitLen_cons (x : UInt8) (xs : List UInt8) (h : x ≠ 0) : bitLen (num (x :: xs)) = 8 * xs.length + bitLen x.toNat := by
  have hx : x.toNat ≠ 0 := fun e => h (UInt8.toNat_inj.1 (by simpa using e))
  have hl := num_lt xs
  have key : ∀ k, 8 * xs.length ≤ k → (bitLen (num (x :: xs)) ≤ k ↔ 8 * xs.length + bitLen x.toNat ≤ k) := by
    intro k hk
    obtain ⟨j, rfl⟩ := Nat.exists_eq_add_of_le hk
    rw [bitLen_le, Nat.add_le_add_iff_left, bitLen_le, num_cons, Nat.pow_add, ← Pb_two]
    generalize Pb xs.length = P at *
    constructor
    · intro h1
      apply Classical.byContradiction
      intro hc
      have := Nat.mul_le_mul_right P (show 2 ^ j ≤ x.toNat by omega)
      rw [Nat.mul_comm P] at h1; omega
    · intro h1
      have := Nat.mul_le_mul_right P (show x.toNat + 1 ≤ 2 ^ j by omega)
      rw [Nat.add_mul, Nat.one_mul] at this
      rw [Nat.mul_comm P]; omega
  have a := (key _ (Nat.le_add_right _ _)).2 (Nat.le_refl _)
  have b1 : 8 * xs.length ≤ bitLen (num (x :: xs)) := by
    apply Classical.byContradiction
    intro hc
    have h2 := (bitLen_le (num (x :: xs)) (8 * xs.length)).1 (by omega)
    rw [← Pb_two, num_cons] at h2
    have := Nat.mul_le_mul_right (Pb xs.length) (show 1 ≤ x.toNat by omega)
    omega
  have b := (key _ b1).1 (Nat.le_refl _)
  omega

theorem bitLen_bytes (bs : List UInt8) (k : Nat) (h : bs.length ≤ k) : bitLen (num bs) ≤ 8 * k := by
  have h2 := num_lt bs
  have h3 := Pb_le h
  exact (bitLen_le (num bs) (8 * k)).2 (by rw [← Pb_two]; exact Nat.lt_of_lt_of_le h2 h3)

/-- Division by a small number, a byte at a time. -/
theorem over_step (p b n : Nat) (hn : 0 < n) : (256 * (p % n) + b) % n = (p * 256 + b) % n ∧ (p * 256 + b) / n = p / n * 256 + (256 * (p % n) + b) / n := by
  have hd := Nat.div_add_mod p n
  have e : p * 256 + b = n * (p / n * 256) + (256 * (p % n) + b) := by
    conv => lhs; rw [← hd]
    rw [Nat.add_mul, Nat.mul_assoc, Nat.mul_comm 256, Nat.add_assoc]
  constructor
  · rw [e, Nat.mul_add_mod]
  · rw [e, Nat.mul_add_div hn]
theorem over_byte (p b n : Nat) (hn : 0 < n) (hb : b ≤ 255) : (256 * (p % n) + b) / n < 256 := by
  have := Nat.mod_lt p hn
  rw [Nat.div_lt_iff_lt_mul hn]; omega

/-- One bit more of a number modulo another one. -/
theorem modulo_step (t x n : Nat) (hx : x < 2) (hn : 0 < n) : (2 * t + x) % n = if 2 * (t % n) + x < n then 2 * (t % n) + x else 2 * (t % n) + x - n := by
  have hd := Nat.div_add_mod t n
  have hl := Nat.mod_lt t hn
  have e : (2 * t + x) % n = (2 * (t % n) + x) % n := by
    conv => lhs; rw [← hd]
    rw [Nat.mul_add, Nat.mul_left_comm, Nat.add_assoc, Nat.mul_add_mod]
  rw [e]
  split
  · next h => exact Nat.mod_eq_of_lt h
  · next h => rw [Nat.mod_eq_sub_mod (by omega), Nat.mod_eq_of_lt (by omega)]

/-- Which of two numbers is less, by their lengths and their bytes. -/
theorem less_len {xs ys : List UInt8} (hx : Tight xs) (hy : Tight ys) (h : xs.length ≠ ys.length) : (xs.length < ys.length) ↔ num xs < num ys := by
  constructor
  · intro h1
    have h2 := num_lt xs
    cases ys with
    | nil => simp at h1
    | cons y ys =>
      have h3 := tight_ge hy
      have := Pb_le (show xs.length ≤ ys.length by rw [List.length_cons] at h1; omega)
      omega
  · intro h1
    apply Classical.byContradiction
    intro hc
    cases xs with
    | nil => simp at h hc; exact absurd hc (by intro e; exact h (by rw [e]; rfl))
    | cons x xs =>
      have h3 := tight_ge hx
      have h2 := num_lt ys
      have := Pb_le (show ys.length ≤ xs.length by rw [List.length_cons] at h hc; omega)
      omega

/-- 2 to the n less 1, in bytes. -/
def mers (n : Nat) : List UInt8 := (if 0 < n % 8 then [UInt8.ofNat (2 ^ (n % 8) - 1)] else []) ++ List.replicate (n / 8) 255

end Go.Proofs.YtdmpiecdpdknaaaGreatDoor
