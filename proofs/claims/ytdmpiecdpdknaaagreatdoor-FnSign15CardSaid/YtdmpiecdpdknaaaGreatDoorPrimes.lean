/-
  Fermat's little theorem; Lucas and Lehmer's test, five primes; the numbers of RSA: the plain laws.
-/
namespace Go.Proofs.YtdmpiecdpdknaaaGreatDoor.Num

/-- A prime. -/
def Pr (p : Nat) : Prop := 1 < p ∧ ∀ d, d ∣ p → d = 1 ∨ d = p

theorem Pr.pos {p : Nat} (h : Pr p) : 0 < p := by have := h.1; omega
theorem Pr.coprime {p : Nat} (h : Pr p) {a : Nat} (ha : ¬ p ∣ a) : Nat.gcd p a = 1 := by
  rcases h.2 _ (Nat.gcd_dvd_left p a) with e | e
  · exact e
  · exact absurd (e ▸ Nat.gcd_dvd_right p a) ha
theorem Pr.split {p : Nat} (h : Pr p) {a b : Nat} (hab : p ∣ a * b) (ha : ¬ p ∣ a) : p ∣ b :=
  Nat.Coprime.dvd_of_dvd_mul_left (h.coprime ha) hab

/-- n over k. -/
def ch : Nat → Nat → Nat
  | _, 0 => 1
  | 0, _ + 1 => 0
  | n + 1, k + 1 => ch n k + ch n (k + 1)
theorem ch_zero (n : Nat) : ch n 0 = 1 := by cases n <;> rfl
theorem ch_big (n k : Nat) (h : n < k) : ch n k = 0 := by
  induction n generalizing k with
  | zero => obtain ⟨j, rfl⟩ : ∃ j, k = j + 1 := ⟨k - 1, by omega⟩; rfl
  | succ n ih => obtain ⟨j, rfl⟩ : ∃ j, k = j + 1 := ⟨k - 1, by omega⟩; rw [ch, ih j (by omega), ih (j + 1) (by omega)]
theorem ch_self (n : Nat) : ch n n = 1 := by
  induction n with
  | zero => rfl
  | succ n ih => rw [ch, ih, ch_big n (n + 1) (by omega)]
theorem ch_mul (n k : Nat) : (k + 1) * ch (n + 1) (k + 1) = (n + 1) * ch n k := by
  induction n generalizing k with
  | zero => cases k with
    | zero => rfl
    | succ k => simp [ch]
  | succ n ih =>
    cases k with
    | zero =>
      have h := ih 0
      simp only [ch_zero, Nat.zero_add, Nat.one_mul, Nat.mul_one] at h ⊢
      rw [show ch (n + 1 + 1) 1 = ch (n + 1) 0 + ch (n + 1) 1 from rfl, ch_zero]
      omega
    | succ k =>
      have h1 := ih k
      have h2 := ih (k + 1)
      rw [ch, Nat.mul_add, show (k + 1 + 1) * ch (n + 1) (k + 1) = (k + 1) * ch (n + 1) (k + 1) + ch (n + 1) (k + 1) by rw [Nat.add_mul, Nat.one_mul], h1, h2]
      rw [show ch (n + 1) (k + 1) = ch n k + ch n (k + 1) from rfl]
      rw [Nat.add_mul (n + 1) 1, Nat.one_mul, Nat.mul_add (n + 1)]
      omega

/-- The first m members of the sum of (a + 1) to the n. -/
def bs (n a : Nat) : Nat → Nat
  | 0 => 0
  | m + 1 => bs n a m + ch n m * a ^ m
theorem bs_step (n a m : Nat) : bs (n + 1) a (m + 1) = bs n a (m + 1) + a * bs n a m := by
  induction m with
  | zero => simp [bs, ch_zero]
  | succ m ih =>
    rw [bs, ih, bs, bs, ch, Nat.add_mul]
    rw [bs, Nat.mul_add, Nat.pow_succ]
    have : a * (ch n m * a ^ m) = ch n m * (a ^ m * a) := by
      rw [Nat.mul_left_comm, Nat.mul_comm a]
    omega
theorem bs_all (n a : Nat) : bs n a (n + 1) = (a + 1) ^ n := by
  induction n with
  | zero => simp [bs, ch]
  | succ n ih =>
    rw [bs_step, bs, ch_big n (n + 1) (by omega), ih, Nat.zero_mul, Nat.add_zero, Nat.pow_succ, Nat.mul_add, Nat.mul_one, Nat.mul_comm a]
    omega

theorem bs_mod {p : Nat} (h : Pr p) (a m : Nat) (hm : m < p) : bs p a (m + 1) % p = 1 := by
  have h1 := h.1
  induction m with
  | zero => simp [bs, ch_zero, Nat.mod_eq_of_lt h1]
  | succ m ih =>
    have hc := ch_mul (p - 1) m
    rw [show p - 1 + 1 = p by omega] at hc
    have hd : p ∣ ch p (m + 1) := h.split (a := m + 1) (hc ▸ Nat.dvd_mul_right _ _) (fun e => by have := Nat.le_of_dvd (by omega) e; omega)
    obtain ⟨t, ht⟩ := hd
    rw [bs, ht, Nat.mul_assoc, Nat.add_mul_mod_self_left]
    exact ih (by omega)

theorem fermat_all {p : Nat} (h : Pr p) (a : Nat) : a ^ p % p = a % p := by
  have h1 := h.1
  induction a with
  | zero => rw [Nat.zero_pow h.pos]
  | succ a ih =>
    have e := bs_all p a
    rw [bs] at e
    have hb := bs_mod h a (p - 1) (by omega)
    rw [show p - 1 + 1 = p by omega] at hb
    rw [← e, ch_self, Nat.one_mul, Nat.add_mod, hb, ih, Nat.add_mod_mod, Nat.add_comm 1]

theorem fermat {p : Nat} (h : Pr p) (a : Nat) (ha : ¬ p ∣ a) : a ^ (p - 1) % p = 1 := by
  have h1 := h.1
  have e := fermat_all h a
  have hp : a ^ p = a * a ^ (p - 1) := by
    rw [show p = p - 1 + 1 by omega, Nat.pow_succ, Nat.mul_comm]; rfl
  have hpos : 1 ≤ a ^ (p - 1) := Nat.pow_pos (Nat.pos_of_ne_zero (fun e => ha (e ▸ Nat.dvd_zero p)))
  have hd : p ∣ a * (a ^ (p - 1) - 1) := by
    rw [Nat.mul_sub, Nat.mul_one, ← hp]
    exact Nat.dvd_of_mod_eq_zero (Nat.sub_mod_eq_zero_of_mod_eq e)
  obtain ⟨t, ht⟩ := h.split hd ha
  rw [show a ^ (p - 1) = 1 + p * t by omega, Nat.add_mul_mod_self_left, Nat.mod_eq_of_lt h1]

/-- x to a power that is 1 more than a multiple of p - 1. -/
theorem fermat_pow {p : Nat} (h : Pr p) (x t : Nat) : x ^ ((p - 1) * t + 1) % p = x % p := by
  have h1 := h.1
  by_cases hx : p ∣ x
  · obtain ⟨y, rfl⟩ := hx
    rw [Nat.pow_succ, Nat.mul_left_comm, Nat.mul_mod_right, Nat.mul_mod_right]
  · rw [Nat.pow_succ, Nat.pow_mul, Nat.mul_mod, Nat.pow_mod, fermat h x hx, Nat.one_pow, Nat.mod_eq_of_lt h1, Nat.one_mul, Nat.mod_mod]


/-- x and y stand for x + y times the root of 3. -/
structure Zr where
  x : Int
  y : Int
def Zr.mul (a b : Zr) : Zr := ⟨a.x * b.x + 3 * (a.y * b.y), a.x * b.y + a.y * b.x⟩
def Zr.bar (a : Zr) : Zr := ⟨a.x, -a.y⟩
def Zr.one : Zr := ⟨1, 0⟩
def Zr.two : Zr := ⟨2, 1⟩
/-- The powers of 2 and the root of 3. -/
def om : Nat → Zr
  | 0 => Zr.one
  | n + 1 => (om n).mul Zr.two
theorem Zr.ext_ {a b : Zr} (h : a.x = b.x) (k : a.y = b.y) : a = b := by cases a; cases b; simp_all
theorem Zr.mul_assoc (a b c : Zr) : (a.mul b).mul c = a.mul (b.mul c) := by
  apply Zr.ext_ <;> simp only [Zr.mul] <;> grind
theorem Zr.one_mul (a : Zr) : Zr.one.mul a = a := by apply Zr.ext_ <;> simp [Zr.mul, Zr.one]
theorem Zr.mul_one (a : Zr) : a.mul Zr.one = a := by apply Zr.ext_ <;> simp [Zr.mul, Zr.one]
theorem Zr.mul_comm (a b : Zr) : a.mul b = b.mul a := by apply Zr.ext_ <;> simp only [Zr.mul] <;> grind
theorem om_add (i j : Nat) : om (i + j) = (om i).mul (om j) := by
  induction j with
  | zero => rw [Nat.add_zero, om, Zr.mul_one]
  | succ j ih => rw [← Nat.add_assoc, om, ih, om, Zr.mul_assoc]
theorem om_norm (i : Nat) : (om i).mul (om i).bar = Zr.one := by
  have h : (om i).x * (om i).x - 3 * ((om i).y * (om i).y) = 1 := by
    induction i with
    | zero => simp [om, Zr.one]
    | succ i ih => simp only [om, Zr.mul, Zr.two]; grind
  apply Zr.ext_ <;> simp only [Zr.mul, Zr.bar, Zr.one] <;> grind

/-- The same modulo d. -/
def Eq' (d : Int) (a b : Zr) : Prop := d ∣ a.x - b.x ∧ d ∣ a.y - b.y
theorem Eq'.rfl' (d : Int) (a : Zr) : Eq' d a a := by simp [Eq']
theorem Eq'.symm {d : Int} {a b : Zr} (h : Eq' d a b) : Eq' d b a := by
  obtain ⟨⟨s, hs⟩, ⟨t, ht⟩⟩ := h
  exact ⟨⟨-s, by grind⟩, ⟨-t, by grind⟩⟩
theorem Eq'.trans {d : Int} {a b c : Zr} (h : Eq' d a b) (k : Eq' d b c) : Eq' d a c := by
  obtain ⟨⟨s, hs⟩, ⟨t, ht⟩⟩ := h
  obtain ⟨⟨s', hs'⟩, ⟨t', ht'⟩⟩ := k
  exact ⟨⟨s + s', by grind⟩, ⟨t + t', by grind⟩⟩
theorem Eq'.mul {d : Int} {a b : Zr} (h : Eq' d a b) (c : Zr) : Eq' d (a.mul c) (b.mul c) := by
  obtain ⟨⟨s, hs⟩, ⟨t, ht⟩⟩ := h
  refine ⟨⟨s * c.x + 3 * (t * c.y), ?_⟩, ⟨s * c.y + t * c.x, ?_⟩⟩
  · simp only [Zr.mul]; grind
  · simp only [Zr.mul]; grind
theorem Eq'.mul2 {d : Int} {a b a' b' : Zr} (h : Eq' d a b) (k : Eq' d a' b') : Eq' d (a.mul a') (b.mul b') := by
  refine (h.mul a').trans ?_
  rw [Zr.mul_comm b a', Zr.mul_comm b b']
  exact k.mul b

theorem om_back {d : Int} {i j : Nat} (h : Eq' d (om i) (om (i + j))) : Eq' d (om j) Zr.one := by
  rw [om_add] at h
  have k := h.mul (om i).bar
  rw [om_norm, Zr.mul_comm (om i) (om j), Zr.mul_assoc, om_norm, Zr.mul_one] at k
  exact k.symm

theorem om_one_mul {d : Int} {t : Nat} (h : Eq' d (om t) Zr.one) (k : Nat) : Eq' d (om (t * k)) Zr.one := by
  induction k with
  | zero => exact Eq'.rfl' _ _
  | succ k ih =>
    rw [Nat.mul_succ, om_add]
    have := ih.mul2 h
    rw [Zr.one_mul] at this
    exact this

def Zr.neg1 : Zr := ⟨-1, 0⟩
theorem om_neg_odd {d : Int} {t : Nat} (h : Eq' d (om t) Zr.neg1) (k : Nat) : Eq' d (om (t * (2 * k + 1))) Zr.neg1 := by
  have h2 : Eq' d (om (t * 2)) Zr.one := by
    have := h.mul2 h
    rw [← om_add] at this
    rw [Nat.mul_two]
    exact this
  have h3 := (om_one_mul h2 k).mul2 h
  rw [← om_add, Zr.one_mul] at h3
  rw [Nat.mul_add, Nat.mul_one, ← Nat.mul_assoc]
  exact h3

/-- A number is a power of 2 times an odd one. -/
theorem two_part (t : Nat) (h : 0 < t) : ∃ s o, t = 2 ^ s * (2 * o + 1) := by
  induction t using Nat.strongRecOn with
  | _ t ih =>
    by_cases he : t % 2 = 0
    · obtain ⟨s, o, e⟩ := ih (t / 2) (by omega) (by omega)
      refine ⟨s + 1, o, ?_⟩
      rw [Nat.pow_succ, Nat.mul_comm (2 ^ s) 2, Nat.mul_assoc, ← e]; omega
    · exact ⟨0, t / 2, by rw [Nat.pow_zero, Nat.one_mul]; omega⟩

theorem om_distinct {d : Int} {n : Nat} (hd : ¬ d ∣ 2) (h : Eq' d (om (2 ^ n)) Zr.neg1) (t : Nat) (h0 : 0 < t) (ht : t < 2 ^ (n + 1)) : ¬ Eq' d (om t) Zr.one := by
  intro h1
  obtain ⟨s, o, rfl⟩ := two_part t h0
  have hs : s ≤ n := by
    apply Classical.byContradiction
    intro hc
    have := Nat.pow_le_pow_right (n := 2) (by decide) (show n + 1 ≤ s by omega)
    have := Nat.le_mul_of_pos_right (2 ^ s) (show 0 < 2 * o + 1 by omega)
    omega
  have h2 := om_one_mul h1 (2 ^ (n - s))
  have h3 := om_neg_odd h o
  have e : 2 ^ s * (2 * o + 1) * 2 ^ (n - s) = 2 ^ n * (2 * o + 1) := by
    rw [Nat.mul_right_comm, ← Nat.pow_add, Nat.add_sub_cancel' hs]
  rw [e] at h2
  have h4 := (h2.symm.trans h3).1
  exact hd (by simpa [Zr.one, Zr.neg1] using h4)

/-- As many things as there are places for them. -/
theorem pigeon (K N : Nat) (f : Nat → Nat) (hf : ∀ i, i < N → f i < K) (hi : ∀ i j, i < j → j < N → f i ≠ f j) : N ≤ K := by
  induction K generalizing N f with
  | zero =>
    cases N with
    | zero => exact Nat.le_refl _
    | succ N => exact absurd (hf 0 (by omega)) (by omega)
  | succ K ih =>
    by_cases h : ∃ i, i < N ∧ f i = K
    · obtain ⟨i0, hi0, e⟩ := h
      have := ih (N - 1) (fun i => if i < i0 then f i else f (i + 1)) (fun i hiN => by
          show (if i < i0 then f i else f (i + 1)) < K
          split
          · have a := hf i (by omega)
            have b := hi i i0 (by omega) hi0
            omega
          · have a := hf (i + 1) (by omega)
            have b := hi i0 (i + 1) (by omega) (by omega)
            omega) (fun i j hij hj => by
          show (if i < i0 then f i else f (i + 1)) ≠ (if j < i0 then f j else f (j + 1))
          split <;> split
          · exact hi _ _ (by omega) (by omega)
          · exact hi _ _ (by omega) (by omega)
          · omega
          · exact hi _ _ (by omega) (by omega))
      omega
    · have := ih N f (fun i hiN => by
        have a := hf i hiN
        have b : f i ≠ K := fun e => h ⟨i, hiN, e⟩
        omega) hi
      omega

/-- So the order of that number tells how great its modulus is. -/
theorem om_order (d n : Nat) (h1 : 2 < d) (h : Eq' d (om (2 ^ n)) Zr.neg1) : 2 ^ (n + 1) < d * d := by
  have hd : (0 : Int) < d := by omega
  have hd2 : ¬ (d : Int) ∣ 2 := fun e => by have := Int.le_of_dvd (by decide) e; omega
  let f : Nat → Nat := fun i => ((om i).x % d).toNat * d + ((om i).y % d).toNat
  have bx : ∀ i, ((om i).x % d).toNat < d := fun i => by
    have a := Int.emod_lt_of_pos (om i).x hd
    have b := Int.emod_nonneg (om i).x (by omega : (d : Int) ≠ 0)
    omega
  have by_ : ∀ i, ((om i).y % d).toNat < d := fun i => by
    have a := Int.emod_lt_of_pos (om i).y hd
    have b := Int.emod_nonneg (om i).y (by omega : (d : Int) ≠ 0)
    omega
  have key : ∀ u v u' v' : Nat, v < d → v' < d → u * d + v = u' * d + v' → u = u' ∧ v = v' := by
    intro u v u' v' hv hv' e
    have e1 : (u * d + v) / d = (u' * d + v') / d := by rw [e]
    rw [Nat.mul_comm u, Nat.mul_comm u', Nat.mul_add_div (by omega), Nat.mul_add_div (by omega), Nat.div_eq_of_lt hv, Nat.div_eq_of_lt hv', Nat.add_zero, Nat.add_zero] at e1
    subst e1
    exact ⟨rfl, by omega⟩
  have nz : ∀ i, f i ≠ 0 := by
    intro i e
    obtain ⟨e1, e2⟩ := key _ _ 0 0 (by_ i) (by omega) (show f i = 0 * d + 0 by rw [e]; simp)
    have b := Int.emod_nonneg (om i).x (by omega : (d : Int) ≠ 0)
    have b2 := Int.emod_nonneg (om i).y (by omega : (d : Int) ≠ 0)
    obtain ⟨s, hs⟩ : (d : Int) ∣ (om i).x := Int.dvd_of_emod_eq_zero (by omega)
    obtain ⟨t, ht⟩ : (d : Int) ∣ (om i).y := Int.dvd_of_emod_eq_zero (by omega)
    have hn := congrArg Zr.x (om_norm i)
    simp only [Zr.mul, Zr.bar, Zr.one, hs, ht] at hn
    have : (d : Int) ∣ 1 := ⟨s * (d * s) + 3 * (t * -(d * t)), by grind⟩
    have := Int.le_of_dvd (by decide) this
    omega
  have hfin := pigeon (d * d - 1) (2 ^ (n + 1)) (fun i => f i - 1) (fun i hi => by
      have a := bx i
      have b := by_ i
      have c := nz i
      have : f i < d * d := by
        show ((om i).x % d).toNat * d + ((om i).y % d).toNat < d * d
        have := Nat.mul_le_mul_right d (show ((om i).x % d).toNat ≤ d - 1 by omega)
        rw [Nat.sub_mul, Nat.one_mul] at this
        have : d ≤ d * d := Nat.le_mul_of_pos_right d (by omega)
        omega
      show f i - 1 < d * d - 1
      omega) (fun i j hij hj e => by
      have c := nz i
      have c' := nz j
      have e : f i = f j := by
        have : f i - 1 = f j - 1 := e
        omega
      obtain ⟨e1, e2⟩ := key _ _ _ _ (by_ i) (by_ j) e
      have b := Int.emod_nonneg (om i).x (by omega : (d : Int) ≠ 0)
      have b2 := Int.emod_nonneg (om i).y (by omega : (d : Int) ≠ 0)
      have b' := Int.emod_nonneg (om j).x (by omega : (d : Int) ≠ 0)
      have b2' := Int.emod_nonneg (om j).y (by omega : (d : Int) ≠ 0)
      have q : Eq' d (om i) (om j) := ⟨Int.dvd_of_emod_eq_zero (Int.emod_eq_emod_iff_emod_sub_eq_zero.1 (by omega)), Int.dvd_of_emod_eq_zero (Int.emod_eq_emod_iff_emod_sub_eq_zero.1 (by omega))⟩
      have q2 : Eq' d (om i) (om (i + (j - i))) := by rw [Nat.add_sub_cancel' (by omega)]; exact q
      exact om_distinct hd2 h (j - i) (by omega) (by omega) (om_back q2))
  have : 9 ≤ d * d := Nat.mul_le_mul (show 3 ≤ d by omega) (show 3 ≤ d by omega)
  omega

/-- The test's numbers modulo m. -/
def ll (m : Nat) : Nat → Nat
  | 0 => 4
  | k + 1 => (ll m k * ll m k + (m - 2)) % m

theorem ll_om (m k : Nat) (hm : 2 < m) : (m : Int) ∣ 2 * (om (2 ^ k)).x - (ll m k : Int) := by
  induction k with
  | zero => simp [ll, om, Zr.mul, Zr.one, Zr.two]
  | succ k ih =>
    obtain ⟨t, ht⟩ := ih
    have hn := congrArg Zr.x (om_norm (2 ^ k))
    have hx : (om (2 ^ (k + 1))).x = 2 * ((om (2 ^ k)).x * (om (2 ^ k)).x) - 1 := by
      rw [Nat.pow_succ, Nat.mul_two, om_add]
      simp only [Zr.mul, Zr.bar, Zr.one] at hn ⊢
      grind
    have hl : ((ll m (k + 1) : Nat) : Int) = ((ll m k : Int) * (ll m k : Int) + ((m : Int) - 2)) % (m : Int) := by
      rw [ll, Int.natCast_emod, Int.natCast_add, Int.natCast_mul, Int.natCast_sub (by omega)]; rfl
    have hd := Int.mul_ediv_add_emod ((ll m k : Int) * (ll m k : Int) + ((m : Int) - 2)) (m : Int)
    rw [hx, hl]
    generalize ((ll m k : Int) * (ll m k : Int) + ((m : Int) - 2)) / (m : Int) = q at hd
    generalize ((ll m k : Int) * (ll m k : Int) + ((m : Int) - 2)) % (m : Int) = r at hd
    refine ⟨t * (2 * (om (2 ^ k)).x + (ll m k : Int)) + q - 1, ?_⟩
    grind

theorem lucas_lehmer (n : Nat) (hn : 3 ≤ n) (h : ll (2 ^ n - 1) (n - 2) = 0) : Pr (2 ^ n - 1) := by
  have h8 : 8 ≤ 2 ^ n := Nat.pow_le_pow_right (n := 2) (by decide) hn
  have key : ∀ d, d ∣ 2 ^ n - 1 → 1 < d → 2 ^ n - 1 < d * d := by
    intro d hd h1
    have hodd : d ≠ 2 := by
      rintro rfl
      obtain ⟨t, ht⟩ := hd
      obtain ⟨k, rfl⟩ : ∃ k, n = k + 1 := ⟨n - 1, by omega⟩
      rw [Nat.pow_succ] at ht h8
      omega
    have hl := ll_om (2 ^ n - 1) (n - 2) (by omega)
    rw [h] at hl
    have hl2 : (d : Int) ∣ 2 * (om (2 ^ (n - 2))).x := by
      have := Int.dvd_trans (Int.natCast_dvd_natCast.2 hd) hl
      simpa using this
    obtain ⟨t, ht⟩ := hl2
    have hn2 := congrArg Zr.x (om_norm (2 ^ (n - 2)))
    have e : om (2 ^ (n - 1)) = (om (2 ^ (n - 2))).mul (om (2 ^ (n - 2))) := by
      rw [← om_add, ← Nat.mul_two, ← Nat.pow_succ]; congr 2; omega
    have hq : Eq' d (om (2 ^ (n - 1))) Zr.neg1 := by
      rw [e]
      simp only [Zr.mul, Zr.bar, Zr.one] at hn2
      refine ⟨⟨t * (om (2 ^ (n - 2))).x, ?_⟩, ⟨t * (om (2 ^ (n - 2))).y, ?_⟩⟩
      · simp only [Zr.mul, Zr.neg1]; grind
      · simp only [Zr.mul, Zr.neg1]; grind
    have := om_order d (n - 1) (by omega) hq
    rw [Nat.sub_add_cancel (by omega)] at this
    omega
  refine ⟨by omega, fun d hd => ?_⟩
  apply Classical.byContradiction
  intro hc
  have hpos : 0 < d := Nat.pos_of_dvd_of_pos hd (by omega)
  obtain ⟨e, he⟩ := hd
  have h1 := key d ⟨e, he⟩ (by omega)
  have he1 : e ≠ 1 := fun h => hc (.inr (by rw [he, h, Nat.mul_one]))
  have he0 : e ≠ 0 := fun h => by rw [h] at he; omega
  have h2 := key e ⟨d, by rw [he, Nat.mul_comm]⟩ (by omega)
  rw [he] at h1 h2
  have a := Nat.lt_of_mul_lt_mul_left h1
  have b := Nat.lt_of_mul_lt_mul_right h2
  omega

theorem pr61 : Pr (2 ^ 61 - 1) := lucas_lehmer 61 (by decide) (by decide +kernel)
theorem pr89 : Pr (2 ^ 89 - 1) := lucas_lehmer 89 (by decide) (by decide +kernel)
theorem pr107 : Pr (2 ^ 107 - 1) := lucas_lehmer 107 (by decide) (by decide +kernel)
theorem pr127 : Pr (2 ^ 127 - 1) := lucas_lehmer 127 (by decide) (by decide +kernel)
theorem pr521 : Pr (2 ^ 521 - 1) := lucas_lehmer 521 (by decide) (by decide +kernel)

/-- Two numbers that are the same modulo two numbers without a common divisor. -/
theorem crt_same {p q a b : Nat} (h : Nat.gcd p q = 1) (hp : a % p = b % p) (hq : a % q = b % q) : a % (p * q) = b % (p * q) := by
  have key : ∀ a b : Nat, a ≤ b → a % p = b % p → a % q = b % q → a % (p * q) = b % (p * q) := by
    intro a b hab hp hq
    have h1 : p ∣ b - a := Nat.dvd_of_mod_eq_zero (Nat.sub_mod_eq_zero_of_mod_eq hp.symm)
    have h2 : q ∣ b - a := Nat.dvd_of_mod_eq_zero (Nat.sub_mod_eq_zero_of_mod_eq hq.symm)
    obtain ⟨t, ht⟩ := Nat.Coprime.mul_dvd_of_dvd_of_dvd h h1 h2
    rw [show b = a + p * q * t by omega, Nat.add_mul_mod_self_left]
  rcases Nat.le_total a b with hab | hab
  · exact key a b hab hp hq
  · exact (key b a hab hp.symm hq.symm).symm

theorem Pr.gcd {p q : Nat} (hp : Pr p) (hq : Pr q) (hne : p ≠ q) : Nat.gcd p q = 1 :=
  hp.coprime (fun e => by rcases hq.2 p e with h | h; have := hp.1; omega; exact hne h)

theorem mod_mul_left_mod (a p q : Nat) : a % (p * q) % p = a % p := Nat.mod_mul_right_mod a p q
theorem mod_mul_right_mod (a p q : Nat) : a % (p * q) % q = a % q := by rw [Nat.mul_comm]; exact Nat.mod_mul_right_mod a q p

theorem rsa_back {p q e d t : Nat} (hp : Pr p) (hq : Pr q) (hne : p ≠ q) (h : e * d = (p - 1) * (q - 1) * t + 1) (x : Nat) : x ^ (e * d) % (p * q) = x % (p * q) := by
  apply crt_same (hp.gcd hq hne)
  · rw [h, Nat.mul_assoc]; exact fermat_pow hp x _
  · rw [h, Nat.mul_comm (p - 1), Nat.mul_assoc]; exact fermat_pow hq x _

/-- The exponent may be taken modulo p - 1. -/
theorem pow_mod_exp {p : Nat} (hp : Pr p) (x d : Nat) (h : 0 < d % (p - 1)) : x ^ (d % (p - 1)) % p = x ^ d % p := by
  have h1 := hp.1
  have e := Nat.div_add_mod d (p - 1)
  generalize d / (p - 1) = k at e
  generalize d % (p - 1) = r at e h
  obtain ⟨s, rfl⟩ : ∃ s, r = s + 1 := ⟨r - 1, by omega⟩
  have e2 : x ^ ((p - 1) * k + 1 + s) % p = x ^ (s + 1) % p := by
    rw [Nat.pow_add, Nat.mul_mod, fermat_pow hp x k, ← Nat.mul_mod, Nat.pow_succ, Nat.mul_comm]
  rw [← e, ← e2, show (p - 1) * k + (s + 1) = (p - 1) * k + 1 + s by omega]

/-- The two halves joined. -/
theorem crt_join {p q m1 m2 qi : Nat} (hp : Pr p) (hq : Pr q) (hne : p ≠ q) (hi : q * qi % p = 1) {X : Nat} (h1 : m1 = X % p) (h2 : m2 = X % q) :
    ((m1 + p - m2 % p) % p * qi % p * (q % (p * q)) % (p * q) + m2) % (p * q) = X % (p * q) := by
  have p0 := hp.pos
  have q0 := hq.pos
  rw [← Nat.mod_mod ((m1 + p - m2 % p) % p * qi % p * (q % (p * q)) % (p * q) + m2) (p * q)]
  apply crt_same (hp.gcd hq hne)
  · rw [Nat.mod_mul_right_mod, Nat.add_mod, Nat.mod_mul_right_mod]
    have e : (m1 + p - m2 % p) % p * qi % p * (q % (p * q)) % p = (m1 + p - m2 % p) % p := by
      rw [Nat.mul_mod, Nat.mod_mul_right_mod, Nat.mod_mod, ← Nat.mul_mod, Nat.mul_assoc, Nat.mul_mod, Nat.mul_comm qi, hi, Nat.mod_mod, Nat.mul_one, Nat.mod_mod]
    rw [e, Nat.mod_add_mod, Nat.add_mod_mod]
    have hlt := Nat.mod_lt m2 p0
    have hd := Nat.div_add_mod m2 p
    rw [show m1 + p - m2 % p + m2 = m1 + p + p * (m2 / p) by omega, Nat.add_mul_mod_self_left, Nat.add_mod_right, h1, Nat.mod_mod]
  · rw [mod_mul_right_mod (_ + m2), Nat.add_mod, mod_mul_right_mod, Nat.mul_mod, mod_mul_right_mod, Nat.mod_self, Nat.mul_zero, Nat.zero_mod, Nat.zero_add, Nat.mod_mod, h2, Nat.mod_mod]

end Go.Proofs.YtdmpiecdpdknaaaGreatDoor.Num
