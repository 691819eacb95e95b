/-
  Montgomery's forms, and powers by them: the plain laws.
-/
namespace Go.Proofs.YtmheoenieaemmaaDoor

theorem mod_eq_dvd {a b m : Nat} (e : a % m = b % m) : m ∣ b - a := Nat.dvd_of_mod_eq_zero (Nat.sub_mod_eq_zero_of_mod_eq e.symm)
theorem cancel_mod {r m z u : Nat} (hg : Nat.gcd m r = 1) (h : r * z % m = r * u % m) : z % m = u % m := by
  have key : ∀ z u : Nat, z ≤ u → r * z % m = r * u % m → z % m = u % m := by
    intro z u hzu e
    have hd := mod_eq_dvd e
    rw [← Nat.mul_sub] at hd
    obtain ⟨t, ht⟩ := Nat.Coprime.dvd_of_dvd_mul_left hg hd
    rw [show u = z + m * t by omega, Nat.add_mul_mod_self_left]
  rcases Nat.le_total z u with a | a
  · exact key z u a h
  · exact (key u z a h.symm).symm
theorem gcd_two {m : Nat} (h : m % 2 = 1) : Nat.gcd m 2 = 1 := by
  have a := Nat.gcd_dvd_left m 2
  have b := Nat.gcd_dvd_right m 2
  have c := Nat.le_of_dvd (by decide) b
  have d : Nat.gcd m 2 ≠ 0 := fun e => by rw [e] at b; have := Nat.eq_zero_of_zero_dvd b; omega
  have e : Nat.gcd m 2 ≠ 2 := fun e => by rw [e] at a; obtain ⟨t, ht⟩ := a; omega
  omega
theorem gcd_Pw {m : Nat} (h : m % 2 = 1) (n : Nat) : Nat.gcd m (18446744073709551616 ^ n) = 1 := by
  rw [show (18446744073709551616 : Nat) = 2 ^ 64 from rfl, ← Nat.pow_mul]
  exact Nat.Coprime.pow_right _ (gcd_two h)

/-- v stands for x: it is x times R modulo m. -/
def MF (n m v x : Nat) : Prop := v = x * 18446744073709551616 ^ n % m

theorem MF.lt {n m v x : Nat} (h : MF n m v x) (hm : 0 < m) : v < m := by unfold MF at h; rw [h]; exact Nat.mod_lt _ hm
theorem MF.mul {n m a b x y z : Nat} (ho : m % 2 = 1) (ha : MF n m a x) (hb : MF n m b y) (hz : z < m) (h : 18446744073709551616 ^ n * z % m = a * b % m) : MF n m z (x * y) := by
  unfold MF at *
  have e : z % m = x * y * 18446744073709551616 ^ n % m := by
    apply cancel_mod (gcd_Pw ho n)
    rw [h, ha, hb, ← Nat.mul_mod]
    congr 1
    generalize 18446744073709551616 ^ n = R
    rw [Nat.mul_mul_mul_comm, Nat.mul_left_comm R, ← Nat.mul_assoc]
  rw [Nat.mod_eq_of_lt hz] at e
  exact e
theorem MF.make {n m a rr z : Nat} (ho : m % 2 = 1) (hr : rr = 18446744073709551616 ^ n * 18446744073709551616 ^ n % m) (hz : z < m) (h : 18446744073709551616 ^ n * z % m = a * rr % m) : MF n m z a := by
  unfold MF
  have e : z % m = a * 18446744073709551616 ^ n % m := by
    apply cancel_mod (gcd_Pw ho n)
    rw [h, hr, Nat.mul_mod_mod]
    congr 1
    rw [Nat.mul_left_comm]
  rw [Nat.mod_eq_of_lt hz] at e
  exact e
theorem MF.back {n m a x z : Nat} (ho : m % 2 = 1) (ha : MF n m a x) (hz : z < m) (h : 18446744073709551616 ^ n * z % m = a * 1 % m) : z = x % m := by
  unfold MF at ha
  have e : z % m = x % m := by
    apply cancel_mod (gcd_Pw ho n)
    rw [h, ha, Nat.mul_one, Nat.mod_mod, Nat.mul_comm]
  rw [Nat.mod_eq_of_lt hz] at e
  exact e
/-- A number by a form: the form falls away. -/
theorem MF.half {n m a x y z : Nat} (ho : m % 2 = 1) (ha : MF n m a x) (hz : z < m) (h : 18446744073709551616 ^ n * z % m = a * y % m) : z = x * y % m := by
  unfold MF at ha
  have e : z % m = x * y % m := by
    apply cancel_mod (gcd_Pw ho n)
    rw [h, ha, Nat.mod_mul_mod, Nat.mul_comm x, Nat.mul_assoc]
  rw [Nat.mod_eq_of_lt hz] at e
  exact e
theorem MF.mod {n m a x : Nat} (h : MF n m a (x % m)) : MF n m a x := by unfold MF at *; rw [h, Nat.mod_mul_mod]
theorem MF.one_iff {n m a : Nat} : MF n m a 1 ↔ a = 18446744073709551616 ^ n % m := by unfold MF; rw [Nat.one_mul]

/-- The state of the making of R times R: 2 to the e times R. -/
theorem two_step {m v e n : Nat} (h : MF n m v (2 ^ e)) : MF n m ((v + v) % m) (2 ^ (e + 1)) := by
  unfold MF at *
  rw [h, ← Nat.add_mod, ← Nat.two_mul, ← Nat.mul_assoc, Nat.pow_succ, Nat.mul_comm 2]
theorem dbl_step {m v e : Nat} (h : v = 2 ^ e % m) : (v + v) % m = 2 ^ (e + 1) % m := by
  rw [h, ← Nat.add_mod, ← Nat.two_mul, Nat.pow_succ, Nat.mul_comm 2]
theorem rr_end {m n v : Nat} (h : MF n m v (2 ^ (64 * n))) : v = 18446744073709551616 ^ n * 18446744073709551616 ^ n % m := by
  unfold MF at h
  rw [h, show (18446744073709551616 : Nat) = 2 ^ 64 from rfl, ← Nat.pow_mul]

end Go.Proofs.YtmheoenieaemmaaDoor
