/-
  Numbers in bytes, the highest first: the plain laws.
-/
namespace Go.Proofs.Ytgkfnmmajehobaa

/-- 256 to the k. -/
def Pb (k : Nat) : Nat := 256 ^ k
theorem Pb_zero : Pb 0 = 1 := rfl
theorem Pb_succ (k : Nat) : Pb (k + 1) = 256 * Pb k := by unfold Pb; rw [Nat.pow_succ, Nat.mul_comm]
theorem Pb_add (a b : Nat) : Pb (a + b) = Pb a * Pb b := by unfold Pb; exact Nat.pow_add _ _ _
theorem Pb_pos (k : Nat) : 0 < Pb k := by unfold Pb; exact Nat.pow_pos (by decide)
theorem Pb_le {a b : Nat} (h : a ≤ b) : Pb a ≤ Pb b := by unfold Pb; exact Nat.pow_le_pow_right (by decide) h
theorem Pb_lt {a b : Nat} (h : a < b) : Pb a < Pb b := by
  have := Pb_le (show a + 1 ≤ b from h)
  have := Pb_pos a
  rw [Pb_succ] at *; omega
theorem Pb_lt_inv {a b : Nat} (h : Pb a < Pb b) : a < b := by
  apply Classical.byContradiction
  intro hc
  have := Pb_le (show b ≤ a by omega)
  omega

/-- What bytes stand for. -/
def num : List UInt8 → Nat
  | [] => 0
  | x :: xs => x.toNat * Pb xs.length + num xs
theorem num_nil : num [] = 0 := rfl
theorem num_cons (x : UInt8) (xs : List UInt8) : num (x :: xs) = x.toNat * Pb xs.length + num xs := rfl
theorem num_append (xs ys : List UInt8) : num (xs ++ ys) = num xs * Pb ys.length + num ys := by
  induction xs with
  | nil => simp [num]
  | cons x xs ih => rw [List.cons_append, num, ih, num, List.length_append, Pb_add, Nat.add_mul, Nat.mul_assoc, Nat.add_assoc]
theorem num_snoc (xs : List UInt8) (x : UInt8) : num (xs ++ [x]) = num xs * 256 + x.toNat := by
  rw [num_append]; simp [num, Pb]
theorem num_lt (xs : List UInt8) : num xs < Pb xs.length := by
  induction xs with
  | nil => simp [num, Pb]
  | cons x xs ih =>
    have hx : x.toNat ≤ 255 := by have := x.toNat_lt; omega
    rw [num, List.length_cons, Pb_succ]
    have := Nat.mul_le_mul_right (Pb xs.length) hx
    omega
theorem num_zeros (n : Nat) : num (List.replicate n 0) = 0 := by
  induction n with
  | zero => rfl
  | succ n ih => rw [List.replicate_succ, num, ih]; simp
theorem num_inj {xs ys : List UInt8} (hl : xs.length = ys.length) (h : num xs = num ys) : xs = ys := by
  induction xs generalizing ys with
  | nil => cases ys with
    | nil => rfl
    | cons y ys => simp at hl
  | cons x xs ih => cases ys with
    | nil => simp at hl
    | cons y ys =>
      have hl' : xs.length = ys.length := by simpa using hl
      rw [num, num, hl'] at h
      have h1 := num_lt xs
      have h2 := num_lt ys
      rw [hl'] at h1
      have a := congrArg (· / Pb ys.length) h
      simp only [Nat.mul_comm _ (Pb ys.length), Nat.mul_add_div (Pb_pos _), Nat.div_eq_of_lt h1, Nat.div_eq_of_lt h2, Nat.add_zero] at a
      rw [a] at h
      rw [UInt8.toNat_inj.1 a, ih hl' (by omega)]

/-- Without noughts ahead. -/
def trim : List UInt8 → List UInt8
  | [] => []
  | x :: xs => if x = 0 then trim xs else x :: xs
theorem num_trim (xs : List UInt8) : num (trim xs) = num xs := by
  induction xs with
  | nil => rfl
  | cons x xs ih =>
    unfold trim
    split
    · next h => rw [ih, num, h]; simp
    · rfl
theorem trim_le (xs : List UInt8) : (trim xs).length ≤ xs.length := by
  induction xs with
  | nil => exact Nat.le_refl _
  | cons x xs ih =>
    unfold trim
    split
    · rw [List.length_cons]; omega
    · exact Nat.le_refl _
/-- The first byte is not nought. -/
def Tight : List UInt8 → Prop
  | [] => True
  | x :: _ => x ≠ 0
theorem trim_tight (xs : List UInt8) : Tight (trim xs) := by
  induction xs with
  | nil => trivial
  | cons x xs ih =>
    unfold trim
    split
    · exact ih
    · next h => exact h
theorem trim_of_tight {xs : List UInt8} (h : Tight xs) : trim xs = xs := by
  cases xs with
  | nil => rfl
  | cons x xs => unfold trim; rw [if_neg h]
theorem trim_trim (xs : List UInt8) : trim (trim xs) = trim xs := trim_of_tight (trim_tight xs)
theorem tight_ge {x : UInt8} {xs : List UInt8} (h : Tight (x :: xs)) : Pb xs.length ≤ num (x :: xs) := by
  have hx : 1 ≤ x.toNat := by
    have : x.toNat ≠ 0 := fun e => h (UInt8.toNat_inj.1 (by simpa using e))
    omega
  rw [num]
  have := Nat.mul_le_mul_right (Pb xs.length) hx
  omega
theorem tight_len {xs : List UInt8} (h : Tight xs) (k : Nat) : xs.length ≤ k ↔ num xs < Pb k := by
  cases xs with
  | nil => simp [num, Pb_pos]
  | cons x xs =>
    have h1 := tight_ge h
    have h2 := num_lt (x :: xs)
    constructor
    · intro hk; exact Nat.lt_of_lt_of_le h2 (Pb_le hk)
    · intro hk
      have := Pb_lt_inv (Nat.lt_of_le_of_lt h1 hk)
      rw [List.length_cons]; omega
theorem tight_inj {xs ys : List UInt8} (hx : Tight xs) (hy : Tight ys) (h : num xs = num ys) : xs = ys := by
  apply num_inj _ h
  apply Nat.le_antisymm
  · exact (tight_len hx _).2 (h ▸ num_lt ys)
  · exact (tight_len hy _).2 (h ▸ num_lt xs)
theorem trim_eq {xs ys : List UInt8} : trim xs = trim ys ↔ num xs = num ys := by
  constructor
  · intro h; rw [← num_trim xs, h, num_trim]
  · intro h; exact tight_inj (trim_tight _) (trim_tight _) (by rw [num_trim, num_trim, h])
theorem trim_nil {xs : List UInt8} : trim xs = [] ↔ num xs = 0 := by
  rw [show ([] : List UInt8) = trim [] from rfl, trim_eq, num_nil]

/-- A number in so many bytes. -/
def enc : Nat → Nat → List UInt8
  | 0, _ => []
  | n + 1, v => enc n (v / 256) ++ [UInt8.ofNat v]
theorem enc_length (n v : Nat) : (enc n v).length = n := by
  induction n generalizing v with
  | zero => rfl
  | succ n ih => simp [enc, ih]
theorem num_enc (n v : Nat) : num (enc n v) = v % Pb n := by
  induction n generalizing v with
  | zero => simp [enc, num, Pb, Nat.mod_one]
  | succ n ih =>
    rw [enc, num_snoc, ih, UInt8.toNat_ofNat', Pb_succ, Nat.mod_mul]
    omega
theorem num_enc_of_lt {n v : Nat} (h : v < Pb n) : num (enc n v) = v := by rw [num_enc, Nat.mod_eq_of_lt h]
theorem enc_num {xs : List UInt8} {n : Nat} (h : xs.length = n) : enc n (num xs) = xs := by
  subst h
  exact num_inj (enc_length _ _) (num_enc_of_lt (num_lt xs))
theorem eq_enc {xs : List UInt8} {n v : Nat} (h : xs.length = n) (hv : num xs = v) : xs = enc n v := by rw [← hv, enc_num h]
theorem enc_zero (n : Nat) : enc n 0 = List.replicate n 0 := (eq_enc List.length_replicate (num_zeros n)).symm

/-- A number without noughts ahead. -/
def encT (v : Nat) : List UInt8 := trim (enc v v)
theorem lt_Pb (v : Nat) : v < Pb v := by
  induction v with
  | zero => simp [Pb]
  | succ v ih => rw [Pb_succ]; omega
theorem num_encT (v : Nat) : num (encT v) = v := by rw [encT, num_trim, num_enc_of_lt (lt_Pb v)]
theorem encT_tight (v : Nat) : Tight (encT v) := trim_tight _
theorem trim_eq_encT (xs : List UInt8) : trim xs = encT (num xs) := tight_inj (trim_tight _) (encT_tight _) (by rw [num_trim, num_encT])
theorem tight_eq_encT {xs : List UInt8} (h : Tight xs) : xs = encT (num xs) := by rw [← trim_eq_encT, trim_of_tight h]
theorem encT_inj {a b : Nat} (h : encT a = encT b) : a = b := by rw [← num_encT a, h, num_encT]
theorem encT_len (v k : Nat) : (encT v).length ≤ k ↔ v < Pb k := by rw [tight_len (encT_tight v), num_encT]
theorem encT_zero : encT 0 = [] := rfl
theorem enc_cons (n v : Nat) : enc (n + 1) v = UInt8.ofNat (v / Pb n) :: enc n v := by
  induction n generalizing v with
  | zero => simp [enc, Pb]
  | succ n ih =>
    rw [enc, ih, enc, List.cons_append, Pb_succ, Nat.div_div_eq_div_mul]

/-- Which of two numbers is less: by their lengths, and by their bytes. -/
theorem lex_lt (xs ys : List UInt8) (hl : xs.length = ys.length) : (num xs < num ys) ↔ xs < ys := by
  induction xs generalizing ys with
  | nil => cases ys with
    | nil => simp [num]
    | cons y ys => simp at hl
  | cons x xs ih => cases ys with
    | nil => simp at hl
    | cons y ys =>
      have hl' : xs.length = ys.length := by simpa using hl
      have h1 := num_lt xs
      have h2 := num_lt ys
      rw [hl'] at h1
      rw [num, num, hl', List.cons_lt_cons_iff, ← ih ys hl']
      rcases Nat.lt_trichotomy x.toNat y.toNat with h | h | h
      · have a := Nat.mul_le_mul_right (Pb ys.length) (show x.toNat + 1 ≤ y.toNat from h)
        rw [Nat.add_mul, Nat.one_mul] at a
        constructor
        · intro _; exact .inl (UInt8.lt_iff_toNat_lt.2 h)
        · intro _; omega
      · have e : x = y := UInt8.toNat_inj.1 h
        subst e
        constructor
        · intro h; exact .inr ⟨rfl, by omega⟩
        · rintro (h | ⟨_, h⟩)
          · exact absurd h (by simp)
          · omega
      · have a := Nat.mul_le_mul_right (Pb ys.length) (show y.toNat + 1 ≤ x.toNat from h)
        rw [Nat.add_mul, Nat.one_mul] at a
        constructor
        · intro _; omega
        · rintro (h' | ⟨rfl, h'⟩)
          · have := UInt8.lt_iff_toNat_lt.1 h'; omega
          · omega

/-- How many bits a number has. -/
def bitLen (v : Nat) : Nat := if v = 0 then 0 else Nat.log2 v + 1
theorem bitLen_le (v k : Nat) : bitLen v ≤ k ↔ v < 2 ^ k := by
  unfold bitLen
  split
  · next h => subst h; simp [Nat.pow_pos]
  · next h => rw [Nat.add_one_le_iff]; exact Nat.log2_lt h
theorem bitLen_eq {v k : Nat} (h1 : 2 ^ k ≤ v) (h2 : v < 2 ^ (k + 1)) : bitLen v = k + 1 := by
  have a := (bitLen_le v (k + 1)).2 h2
  have b : ¬ bitLen v ≤ k := fun e => by have := (bitLen_le v k).1 e; omega
  omega
theorem bitLen_zero : bitLen 0 = 0 := rfl
theorem Pb_two (k : Nat) : Pb k = 2 ^ (8 * k) := by rw [Nat.pow_mul]; rfl
theorem bitLen_half (v : Nat) (h : 0 < v) : bitLen v = bitLen (v / 2) + 1 := by
  have e := Nat.div_add_mod v 2
  have h0 : ∀ k, bitLen v ≤ k + 1 ↔ bitLen (v / 2) ≤ k := fun k => by
    rw [bitLen_le, bitLen_le, Nat.pow_succ]; omega
  have h1 : 0 < bitLen v := by
    apply Nat.pos_of_ne_zero
    intro hc
    have := (bitLen_le v 0).1 (by omega)
    simp at this; omega
  have a := (h0 (bitLen v - 1)).1 (by omega)
  have b := (h0 (bitLen (v / 2))).2 (Nat.le_refl _)
  omega
theorem encT_length_bits (v : Nat) : (encT v).length = (bitLen v + 7) / 8 := by
  have h : ∀ k, (encT v).length ≤ k ↔ bitLen v ≤ 8 * k := fun k => by rw [encT_len, bitLen_le, Pb_two]
  have a := (h ((bitLen v + 7) / 8)).2 (by omega)
  have b := (h (encT v).length).1 (Nat.le_refl _)
  omega

end Go.Proofs.Ytgkfnmmajehobaa
