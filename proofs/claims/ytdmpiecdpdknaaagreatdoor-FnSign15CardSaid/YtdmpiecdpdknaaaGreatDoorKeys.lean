/-
  The pairs of primes of the specification, and their numbers: the plain laws.
-/
import Derived.Test.YtdmpiecdpdknaaaGreatDoorGk
import Derived.Test.YtdmpiecdpdknaaaGreatDoorPrimes
namespace Go.Proofs.YtdmpiecdpdknaaaGreatDoor

def base : List Nat := [61, 89, 107, 127, 521]
/-- The exponents of the pair n. -/
def e1 (n : Nat) : Nat := base.getD (n % 5) 0
def e2 (n : Nat) : Nat := base.getD (if n % 5 ≤ n / 5 % 4 then n / 5 % 4 + 1 else n / 5 % 4) 0
/-- The number k of the secret exponent (phi * k + 1) / 65537. -/
def kOf (s : Nat) : Nat :=
  if s = 150 then 34 else if s = 168 then 2554 else if s = 188 then 55342 else if s = 582 then 8704 else if s = 196 then 10114 else
  if s = 216 then 32811 else if s = 610 then 8192 else if s = 234 then 35961 else if s = 628 then 33241 else 10880
def Mp (a : Nat) : Nat := 2 ^ a - 1
def phiOf (a b : Nat) : Nat := (Mp a - 1) * (Mp b - 1)
def secOf (a b : Nat) : Nat := (phiOf a b * kOf (a + b) + 1) / 65537

def okB (a b : Nat) : Bool :=
  decide (a ∈ base) && decide (b ∈ base) && decide (Mp a ≠ Mp b) && decide (kOf (a + b) < 65537) && decide (1 ≤ kOf (a + b)) && decide ((kOf (a + b) * (phiOf a b % 65537) + 1) % 65537 = 0) &&
  decide (2 ^ (a + b - 1) ≤ Mp a * Mp b) && decide (Mp a * Mp b < 2 ^ (a + b)) && decide (2 ^ ((a + b) / 2) ≤ secOf a b) && decide (secOf a b < Mp a * Mp b) &&
  decide (num (mers a) = Mp a) && decide ((mers a).length = (a + 7) / 8) && decide ((mers a).head? ≠ some 0) && decide (num (mers b) = Mp b) && decide ((mers b).length = (b + 7) / 8) && decide ((phiOf a b * kOf (a + b) + 1) % 65537 = 0) && decide (a + b ≤ 648)
theorem okB_all : ∀ n, n < 256 → okB (e1 n) (e2 n) = true := by decide +kernel

/-- What is known of a pair of exponents. -/
structure Duo (a b : Nat) : Prop where
  pa : Num.Pr (Mp a)
  pb : Num.Pr (Mp b)
  ne : Mp a ≠ Mp b
  k1 : 1 ≤ kOf (a + b)
  k2 : kOf (a + b) < 65537
  kz : (kOf (a + b) * (phiOf a b % 65537) + 1) % 65537 = 0
  lo : 2 ^ (a + b - 1) ≤ Mp a * Mp b
  hi : Mp a * Mp b < 2 ^ (a + b)
  dlo : 2 ^ ((a + b) / 2) ≤ secOf a b
  dhi : secOf a b < Mp a * Mp b
  na : num (mers a) = Mp a
  la : (mers a).length = (a + 7) / 8
  ta : Tight (mers a)
  sec : 65537 * secOf a b = phiOf a b * kOf (a + b) + 1
  a61 : 61 ≤ a
  b61 : 61 ≤ b
  sum : a + b ≤ 648
  nb : num (mers b) = Mp b
  lb : (mers b).length = (b + 7) / 8

theorem prime_base : ∀ a, a ∈ base → Num.Pr (Mp a) := by
  intro a h
  simp only [base, List.mem_cons, List.not_mem_nil, or_false] at h
  rcases h with rfl | rfl | rfl | rfl | rfl
  · unfold Mp; exact Num.pr61
  · unfold Mp; exact Num.pr89
  · unfold Mp; exact Num.pr107
  · unfold Mp; exact Num.pr127
  · unfold Mp; exact Num.pr521
theorem base_ge : ∀ a, a ∈ base → 61 ≤ a := by
  intro a h
  simp only [base, List.mem_cons, List.not_mem_nil, or_false] at h
  omega

theorem duo_of {a b : Nat} (h : okB a b = true) : Duo a b := by
  unfold okB at h
  simp only [Bool.and_eq_true, decide_eq_true_eq] at h
  obtain ⟨⟨⟨⟨⟨⟨⟨⟨⟨⟨⟨⟨⟨⟨⟨⟨h1, h2⟩, h3⟩, h4⟩, h5⟩, h6⟩, h7⟩, h8⟩, h9⟩, h10⟩, h11⟩, h12⟩, h13⟩, h16⟩, h17⟩, h14⟩, h15⟩ := h
  refine ⟨prime_base a h1, prime_base b h2, h3, h5, h4, h6, h7, h8, h9, h10, h11, h12, ?_, ?_, base_ge a h1, base_ge b h2, h15, h16, h17⟩
  · cases hm : mers a with
    | nil => trivial
    | cons x xs => rw [hm] at h13; exact fun e => h13 (by rw [e]; rfl)
  · unfold secOf
    have := Nat.div_add_mod (phiOf a b * kOf (a + b) + 1) 65537
    omega
theorem duo (n : Nat) (h : n < 256) : Duo (e1 n) (e2 n) := duo_of (okB_all n h)

theorem prime65537 : Num.Pr 65537 := by
  refine ⟨by decide, ?_⟩
  have h : ∀ d, d < 257 → d ∣ 65537 → d = 1 := by decide +kernel
  intro d hd
  rcases Nat.lt_or_ge d 257 with h1 | h1
  · exact .inl (h d h1 hd)
  · right
    obtain ⟨e, he⟩ := hd
    have he2 : e < 257 := by
      apply Classical.byContradiction
      intro hc
      have := Nat.mul_le_mul h1 (show 257 ≤ e by omega)
      omega
    have := h e he2 ⟨d, by rw [he, Nat.mul_comm]⟩
    subst this
    omega

/-- No other k does. -/
theorem Duo.uniq {a b : Nat} (h : Duo a b) {k : Nat} (hk : k < 65537) (hz : (k * (phiOf a b % 65537) + 1) % 65537 = 0) : k = kOf (a + b) := by
  have h2 := h.k2
  have h3 := h.kz
  generalize kOf (a + b) = j at *
  generalize phiOf a b % 65537 = r at *
  have key : ∀ x y : Nat, x ≤ y → y < 65537 → (x * r + 1) % 65537 = 0 → (y * r + 1) % 65537 = 0 → x = y := by
    intro x y hxy hy h1 h2
    have hd : 65537 ∣ (y - x) * r := by
      have e : (y - x) * r = y * r + 1 - (x * r + 1) := by rw [Nat.sub_mul]; omega
      rw [e]
      exact Nat.dvd_sub (Nat.dvd_of_mod_eq_zero h2) (Nat.dvd_of_mod_eq_zero h1)
    by_cases hr : 65537 ∣ r
    · obtain ⟨t, rfl⟩ := hr
      rw [Nat.mul_left_comm, Nat.mul_add_mod] at h1
      simp at h1
    · rw [Nat.mul_comm] at hd
      have hd2 := prime65537.split hd hr
      have := Nat.eq_zero_of_dvd_of_lt hd2 (by omega)
      omega
  rcases Nat.le_total k j with e | e
  · exact key k j e h2 hz h3
  · exact (key j k e hk h3 hz).symm

section
variable {a b : Nat} (h : Duo a b)
include h
theorem Duo.sec1 : 65537 * secOf a b % (Mp a - 1) = 1 := by
  have h1 := h.pa.1
  have h61 := h.a61
  rw [h.sec, phiOf, Nat.mul_assoc, Nat.mul_add_mod]
  apply Nat.mod_eq_of_lt
  have : 2 ^ 61 ≤ 2 ^ a := Nat.pow_le_pow_right (by decide) h61
  unfold Mp; omega
theorem Duo.sec2 : 65537 * secOf a b % (Mp b - 1) = 1 := by
  have h61 := h.b61
  rw [h.sec, phiOf, Nat.mul_comm (Mp a - 1), Nat.mul_assoc, Nat.mul_add_mod]
  apply Nat.mod_eq_of_lt
  have : 2 ^ 61 ≤ 2 ^ b := Nat.pow_le_pow_right (by decide) h61
  unfold Mp; omega
theorem Duo.back (x : Nat) : x ^ (65537 * secOf a b) % (Mp a * Mp b) = x % (Mp a * Mp b) :=
  Num.rsa_back h.pa h.pb h.ne h.sec x
theorem Duo.bits : bitLen (Mp a * Mp b) = a + b := by
  have h1 := h.a61
  have := bitLen_eq (k := a + b - 1) h.lo (by rw [show a + b - 1 + 1 = a + b by omega]; exact h.hi)
  omega
theorem Duo.big : 2 ^ 61 ≤ Mp a + 1 ∧ 2 ^ 61 ≤ Mp b + 1 := by
  have h1 : 2 ^ 61 ≤ 2 ^ a := Nat.pow_le_pow_right (by decide) h.a61
  have h2 : 2 ^ 61 ≤ 2 ^ b := Nat.pow_le_pow_right (by decide) h.b61
  unfold Mp; omega
theorem Duo.odd : Mp a % 2 = 1 ∧ Mp b % 2 = 1 := by
  have h1 := h.a61
  have h2 := h.b61
  obtain ⟨x, rfl⟩ : ∃ x, a = x + 1 := ⟨a - 1, by omega⟩
  obtain ⟨y, rfl⟩ : ∃ y, b = y + 1 := ⟨b - 1, by omega⟩
  have p1 : 0 < 2 ^ x := Nat.pow_pos (by decide)
  have p2 : 0 < 2 ^ y := Nat.pow_pos (by decide)
  unfold Mp
  rw [Nat.pow_succ, Nat.pow_succ]
  omega
theorem Duo.oddN : Mp a * Mp b % 2 = 1 := by rw [Nat.mul_mod, h.odd.1, h.odd.2]
end

end Go.Proofs.YtdmpiecdpdknaaaGreatDoor
