/-
  Montgomery's forms, and powers by them: the plain laws.
  The inverse of an odd word; powers of 2 modulo a number, by doubling and by squaring: the plain laws.
-/
namespace Go.Proofs.YtdmpiecdpdknaaaGreatDoor

theorem mod_eq_dvd {a b m : Nat} (e : a % m = b % m) : m ∣ b - a := Nat.dvd_of_mod_eq_zero (Nat.sub_mod_eq_zero_of_mod_eq e.symm)
theorem cancel_mod {r m z u : Nat} (hg : Nat.gcd m r = 1) (h : r * z % m = r * u % m) : z % m = u % m := by
  have key : ∀ z u : Nat, z ≤ u → r * z % m = r * u % m → z % m = u % m := by
    intro z u hzu e
    have hd := mod_eq_dvd e
    rw [← Nat.mul_sub] at hd
    obtain ⟨t, ht⟩ := Nat.Coprime.dvd_of_dvd_mul_left hg hd
    rw [show u = z + m * t by omega, Nat.add_mul_mod_self_left]
  rcases Nat.le_total z u with a | a
  · exact key z u a h
  · exact (key u z a h.symm).symm
theorem gcd_two {m : Nat} (h : m % 2 = 1) : Nat.gcd m 2 = 1 := by
  have a := Nat.gcd_dvd_left m 2
  have b := Nat.gcd_dvd_right m 2
  have c := Nat.le_of_dvd (by decide) b
  have d : Nat.gcd m 2 ≠ 0 := fun e => by rw [e] at b; have := Nat.eq_zero_of_zero_dvd b; omega
  have e : Nat.gcd m 2 ≠ 2 := fun e => by rw [e] at a; obtain ⟨t, ht⟩ := a; omega
  omega
theorem gcd_Pw {m : Nat} (h : m % 2 = 1) (n : Nat) : Nat.gcd m (18446744073709551616 ^ n) = 1 := by
  rw [show (18446744073709551616 : Nat) = 2 ^ 64 from rfl, ← Nat.pow_mul]
  exact Nat.Coprime.pow_right _ (gcd_two h)

/-- v stands for x: it is x times R modulo m. -/
def MF (n m v x : Nat) : Prop := v = x * 18446744073709551616 ^ n % m

theorem MF.lt {n m v x : Nat} (h : MF n m v x) (hm : 0 < m) : v < m := by unfold MF at h; rw [h]; exact Nat.mod_lt _ hm
theorem MF.mul {n m a b x y z : Nat} (ho : m % 2 = 1) (ha : MF n m a x) (hb : MF n m b y) (hz : z < m) (h : 18446744073709551616 ^ n * z % m = a * b % m) : MF n m z (x * y) := by
  unfold MF at *
  have e : z % m = x * y * 18446744073709551616 ^ n % m := by
    apply cancel_mod (gcd_Pw ho n)
    rw [h, ha, hb, ← Nat.mul_mod]
    congr 1
    generalize 18446744073709551616 ^ n = R
    rw [Nat.mul_mul_mul_comm, Nat.mul_left_comm R, ← Nat.mul_assoc]
  rw [Nat.mod_eq_of_lt hz] at e
  exact e
theorem MF.make {n m a rr z : Nat} (ho : m % 2 = 1) (hr : rr = 18446744073709551616 ^ n * 18446744073709551616 ^ n % m) (hz : z < m) (h : 18446744073709551616 ^ n * z % m = a * rr % m) : MF n m z a := by
  unfold MF
  have e : z % m = a * 18446744073709551616 ^ n % m := by
    apply cancel_mod (gcd_Pw ho n)
    rw [h, hr, Nat.mul_mod_mod]
    congr 1
    rw [Nat.mul_left_comm]
  rw [Nat.mod_eq_of_lt hz] at e
  exact e
theorem MF.back {n m a x z : Nat} (ho : m % 2 = 1) (ha : MF n m a x) (hz : z < m) (h : 18446744073709551616 ^ n * z % m = a * 1 % m) : z = x % m := by
  unfold MF at ha
  have e : z % m = x % m := by
    apply cancel_mod (gcd_Pw ho n)
    rw [h, ha, Nat.mul_one, Nat.mod_mod, Nat.mul_comm]
  rw [Nat.mod_eq_of_lt hz] at e
  exact e
/-- A number by a form: the form falls away. -/
theorem MF.half {n m a x y z : Nat} (ho : m % 2 = 1) (ha : MF n m a x) (hz : z < m) (h : 18446744073709551616 ^ n * z % m = a * y % m) : z = x * y % m := by
  unfold MF at ha
  have e : z % m = x * y % m := by
    apply cancel_mod (gcd_Pw ho n)
    rw [h, ha, Nat.mod_mul_mod, Nat.mul_comm x, Nat.mul_assoc]
  rw [Nat.mod_eq_of_lt hz] at e
  exact e
theorem MF.mod {n m a x : Nat} (h : MF n m a (x % m)) : MF n m a x := by unfold MF at *; rw [h, Nat.mod_mul_mod]
theorem MF.one_iff {n m a : Nat} : MF n m a 1 ↔ a = 18446744073709551616 ^ n % m := by unfold MF; rw [Nat.one_mul]

/-- The state of the making of R times R: 2 to the e times R. -/
theorem two_step {m v e n : Nat} (h : MF n m v (2 ^ e)) : MF n m ((v + v) % m) (2 ^ (e + 1)) := by
  unfold MF at *
  rw [h, ← Nat.add_mod, ← Nat.two_mul, ← Nat.mul_assoc, Nat.pow_succ, Nat.mul_comm 2]
theorem dbl_step {m v e : Nat} (h : v = 2 ^ e % m) : (v + v) % m = 2 ^ (e + 1) % m := by
  rw [h, ← Nat.add_mod, ← Nat.two_mul, Nat.pow_succ, Nat.mul_comm 2]
theorem rr_end {m n v : Nat} (h : MF n m v (2 ^ (64 * n))) : v = 18446744073709551616 ^ n * 18446744073709551616 ^ n % m := by
  unfold MF at h
  rw [h, show (18446744073709551616 : Nat) = 2 ^ 64 from rfl, ← Nat.pow_mul]

end Go.Proofs.YtdmpiecdpdknaaaGreatDoor
namespace Go.Proofs.YtdmpiecdpdknaaaGreatDoor

theorem two_pow_dvd {a b : Nat} (h : a ≤ b) : (2 : Int) ^ a ∣ 2 ^ b := ⟨2 ^ (b - a), by rw [← Int.pow_add, Nat.add_sub_cancel' h]⟩

/-- One step of Newton's. -/
theorem newton (x y s d y' k j : Nat) (hj : j ≤ 2 * k) (hj64 : j ≤ 64) (hs : s = x * y % 18446744073709551616) (hd : d = (2 + 18446744073709551616 - s) % 18446744073709551616) (hy : y' = y * d % 18446744073709551616)
    (h : 2 ^ k ∣ x * y + (2 ^ k - 1)) : 2 ^ j ∣ x * y' + (2 ^ j - 1) := by
  have e64 : (18446744073709551616 : Nat) = 2 ^ 64 := rfl
  obtain ⟨M, hM⟩ : ∃ M : Nat, 18446744073709551616 = M := ⟨_, rfl⟩
  have hj2 : (2 : Int) ^ j ∣ (M : Int) := by rw [← hM, e64, Int.natCast_pow]; exact two_pow_dvd hj64
  have hs1 : s < 18446744073709551616 := by rw [hs]; exact Nat.mod_lt _ (by decide)
  have pk : 0 < 2 ^ k := Nat.pow_pos (by decide)
  have pj : 0 < 2 ^ j := Nat.pow_pos (by decide)
  -- in Int
  obtain ⟨t, ht⟩ := h
  have h1 : (x : Int) * y - 1 = 2 ^ k * ((t : Int) - 1) := by
    have : ((x * y + (2 ^ k - 1) : Nat) : Int) = ((2 ^ k * t : Nat) : Int) := by rw [ht]
    rw [Int.natCast_add, Int.natCast_mul, Int.natCast_mul, Int.natCast_sub pk, Int.natCast_pow] at this
    rw [Int.mul_sub]
    have c : ((2 : Nat) : Int) = 2 := rfl
    have c1 : ((1 : Nat) : Int) = 1 := rfl
    rw [c, c1] at this
    omega
  have h2 : ∃ a : Int, (s : Int) = x * y + M * a := by
    refine ⟨-((x * y / 18446744073709551616 : Nat) : Int), ?_⟩
    have e := Nat.div_add_mod (x * y) 18446744073709551616
    rw [← hs] at e
    have : ((x * y : Nat) : Int) = ((18446744073709551616 * (x * y / 18446744073709551616) + s : Nat) : Int) := by rw [e]
    rw [Int.natCast_add, Int.natCast_mul, Int.natCast_mul, hM] at this
    rw [hM]
    grind
  have h3 : ∃ a : Int, (d : Int) = 2 - s + M * a := by
    refine ⟨1 - (((2 + 18446744073709551616 - s) / 18446744073709551616 : Nat) : Int), ?_⟩
    have e := Nat.div_add_mod (2 + 18446744073709551616 - s) 18446744073709551616
    rw [← hd] at e
    have : ((2 + 18446744073709551616 - s : Nat) : Int) = ((18446744073709551616 * ((2 + 18446744073709551616 - s) / 18446744073709551616) + d : Nat) : Int) := by rw [e]
    rw [Int.natCast_add, Int.natCast_mul, Int.natCast_sub (by omega), hM] at this
    rw [hM]
    have c : ((2 + M : Nat) : Int) = 2 + M := rfl
    grind
  have h4 : ∃ a : Int, (y' : Int) = y * d + M * a := by
    refine ⟨-((y * d / 18446744073709551616 : Nat) : Int), ?_⟩
    have e := Nat.div_add_mod (y * d) 18446744073709551616
    rw [← hy] at e
    have : ((y * d : Nat) : Int) = ((18446744073709551616 * (y * d / 18446744073709551616) + y' : Nat) : Int) := by rw [e]
    rw [Int.natCast_add, Int.natCast_mul, Int.natCast_mul, hM] at this
    rw [hM]
    grind
  obtain ⟨a, ha⟩ := h2
  obtain ⟨b, hb⟩ := h3
  obtain ⟨c, hc⟩ := h4
  have h5 : (2 : Int) ^ j ∣ (x : Int) * y' - 1 := by
    obtain ⟨m, hm⟩ := hj2
    obtain ⟨r, hr⟩ : (2 : Int) ^ j ∣ 2 ^ k * 2 ^ k := by rw [← Int.pow_add]; exact two_pow_dvd (by omega)
    have e : (x : Int) * y' - 1 = -(((x : Int) * y - 1) * ((x : Int) * y - 1)) + M * (x * y * (-a) + x * y * b + x * c) := by
      rw [hc, hb, ha]; grind
    rw [e, h1, hm]
    refine ⟨-(r * (((t : Int) - 1) * ((t : Int) - 1))) + m * (x * y * (-a) + x * y * b + x * c), ?_⟩
    grind
  have h6 : ((2 ^ j : Nat) : Int) ∣ ((x * y' + (2 ^ j - 1) : Nat) : Int) := by
    rw [Int.natCast_add, Int.natCast_mul, Int.natCast_sub (by omega), Int.natCast_pow]
    obtain ⟨m, hm⟩ := h5
    refine ⟨m + 1, ?_⟩
    have c : ((2 : Nat) : Int) = 2 := rfl
    have c1 : ((1 : Nat) : Int) = 1 := rfl
    rw [c, c1]
    grind
  exact Int.natCast_dvd_natCast.1 h6

theorem newton_start (x : Nat) (h : x % 2 = 1) : 2 ^ 3 ∣ x * x + (2 ^ 3 - 1) := by
  obtain ⟨k, rfl⟩ : ∃ k, x = 2 * k + 1 := ⟨x / 2, by omega⟩
  have e : (2 * k + 1) * (2 * k + 1) = 4 * (k * (k + 1)) + 1 := by grind
  have h2 : ∃ t, k * (k + 1) = 2 * t := by
    rcases Nat.mod_two_eq_zero_or_one k with h | h
    · exact ⟨k / 2 * (k + 1), by rw [← Nat.mul_assoc]; congr 1; omega⟩
    · exact ⟨k * ((k + 1) / 2), by rw [Nat.mul_left_comm]; congr 1; omega⟩
  obtain ⟨t, ht⟩ := h2
  rw [e, ht]
  exact ⟨t + 1, by omega⟩

/-- The end: what is taken from nought is the inverse of the number's negative. -/
theorem newton_end (x y z : Nat) (hy : y < 18446744073709551616) (h : 2 ^ 64 ∣ x * y + (2 ^ 64 - 1)) (hz : z = (18446744073709551616 - y) % 18446744073709551616) : x * z % 18446744073709551616 = 18446744073709551615 := by
  obtain ⟨t, ht⟩ := h
  have hy0 : y ≠ 0 := by
    rintro rfl
    rw [Nat.mul_zero] at ht
    omega
  have hz' : z = 18446744073709551616 - y := by rw [hz]; exact Nat.mod_eq_of_lt (by omega)
  have e : x * z + x * y = x * 18446744073709551616 := by rw [← Nat.mul_add, hz']; congr 1; omega
  omega

end Go.Proofs.YtdmpiecdpdknaaaGreatDoor
