/-
  The inverse of an odd word; powers of 2 modulo a number, by doubling and by squaring: the plain laws.
-/
namespace Go.Proofs.YtmheoenieaemmaaDoor

theorem two_pow_dvd {a b : Nat} (h : a ≤ b) : (2 : Int) ^ a ∣ 2 ^ b := ⟨2 ^ (b - a), by rw [← Int.pow_add, Nat.add_sub_cancel' h]⟩

/-- One step of Newton's. -/
theorem newton (x y s d y' k j : Nat) (hj : j ≤ 2 * k) (hj64 : j ≤ 64) (hs : s = x * y % 18446744073709551616) (hd : d = (2 + 18446744073709551616 - s) % 18446744073709551616) (hy : y' = y * d % 18446744073709551616)
    (h : 2 ^ k ∣ x * y + (2 ^ k - 1)) : 2 ^ j ∣ x * y' + (2 ^ j - 1) := by
  have e64 : (18446744073709551616 : Nat) = 2 ^ 64 := rfl
  obtain ⟨M, hM⟩ : ∃ M : Nat, 18446744073709551616 = M := ⟨_, rfl⟩
  have hj2 : (2 : Int) ^ j ∣ (M : Int) := by rw [← hM, e64, Int.natCast_pow]; exact two_pow_dvd hj64
  have hs1 : s < 18446744073709551616 := by rw [hs]; exact Nat.mod_lt _ (by decide)
  have pk : 0 < 2 ^ k := Nat.pow_pos (by decide)
  have pj : 0 < 2 ^ j := Nat.pow_pos (by decide)
  -- in Int
  obtain ⟨t, ht⟩ := h
  have h1 : (x : Int) * y - 1 = 2 ^ k * ((t : Int) - 1) := by
    have : ((x * y + (2 ^ k - 1) : Nat) : Int) = ((2 ^ k * t : Nat) : Int) := by rw [ht]
    rw [Int.natCast_add, Int.natCast_mul, Int.natCast_mul, Int.natCast_sub pk, Int.natCast_pow] at this
    rw [Int.mul_sub]
    have c : ((2 : Nat) : Int) = 2 := rfl
    have c1 : ((1 : Nat) : Int) = 1 := rfl
    rw [c, c1] at this
    omega
  have h2 : ∃ a : Int, (s : Int) = x * y + M * a := by
    refine ⟨-((x * y / 18446744073709551616 : Nat) : Int), ?_⟩
    have e := Nat.div_add_mod (x * y) 18446744073709551616
    rw [← hs] at e
    have : ((x * y : Nat) : Int) = ((18446744073709551616 * (x * y / 18446744073709551616) + s : Nat) : Int) := by rw [e]
    rw [Int.natCast_add, Int.natCast_mul, Int.natCast_mul, hM] at this
    rw [hM]
    grind
  have h3 : ∃ a : Int, (d : Int) = 2 - s + M * a := by
    refine ⟨1 - (((2 + 18446744073709551616 - s) / 18446744073709551616 : Nat) : Int), ?_⟩
    have e := Nat.div_add_mod (2 + 18446744073709551616 - s) 18446744073709551616
    rw [← hd] at e
    have : ((2 + 18446744073709551616 - s : Nat) : Int) = ((18446744073709551616 * ((2 + 18446744073709551616 - s) / 18446744073709551616) + d : Nat) : Int) := by rw [e]
    rw [Int.natCast_add, Int.natCast_mul, Int.natCast_sub (by omega), hM] at this
    rw [hM]
    have c : ((2 + M : Nat) : Int) = 2 + M := rfl
    grind
  have h4 : ∃ a : Int, (y' : Int) = y * d + M * a := by
    refine ⟨-((y * d / 18446744073709551616 : Nat) : Int), ?_⟩
    have e := Nat.div_add_mod (y * d) 18446744073709551616
    rw [← hy] at e
    have : ((y * d : Nat) : Int) = ((18446744073709551616 * (y * d / 18446744073709551616) + y' : Nat) : Int) := by rw [e]
    rw [Int.natCast_add, Int.natCast_mul, Int.natCast_mul, hM] at this
    rw [hM]
    grind
  obtain ⟨a, ha⟩ := h2
  obtain ⟨b, hb⟩ := h3
  obtain ⟨c, hc⟩ := h4
  have h5 : (2 : Int) ^ j ∣ (x : Int) * y' - 1 := by
    obtain ⟨m, hm⟩ := hj2
    obtain ⟨r, hr⟩ : (2 : Int) ^ j ∣ 2 ^ k * 2 ^ k := by rw [← Int.pow_add]; exact two_pow_dvd (by omega)
    have e : (x : Int) * y' - 1 = -(((x : Int) * y - 1) * ((x : Int) * y - 1)) + M * (x * y * (-a) + x * y * b + x * c) := by
      rw [hc, hb, ha]; grind
    rw [e, h1, hm]
    refine ⟨-(r * (((t : Int) - 1) * ((t : Int) - 1))) + m * (x * y * (-a) + x * y * b + x * c), ?_⟩
    grind
  have h6 : ((2 ^ j : Nat) : Int) ∣ ((x * y' + (2 ^ j - 1) : Nat) : Int) := by
    rw [Int.natCast_add, Int.natCast_mul, Int.natCast_sub (by omega), Int.natCast_pow]
    obtain ⟨m, hm⟩ := h5
    refine ⟨m + 1, ?_⟩
    have c : ((2 : Nat) : Int) = 2 := rfl
    have c1 : ((1 : Nat) : Int) = 1 := rfl
    rw [c, c1]
    grind
  exact Int.natCast_dvd_natCast.1 h6

theorem newton_start (x : Nat) (h : x % 2 = 1) : 2 ^ 3 ∣ x * x + (2 ^ 3 - 1) := by
  obtain ⟨k, rfl⟩ : ∃ k, x = 2 * k + 1 := ⟨x / 2, by omega⟩
  have e : (2 * k + 1) * (2 * k + 1) = 4 * (k * (k + 1)) + 1 := by grind
  have h2 : ∃ t, k * (k + 1) = 2 * t := by
    rcases Nat.mod_two_eq_zero_or_one k with h | h
    · exact ⟨k / 2 * (k + 1), by rw [← Nat.mul_assoc]; congr 1; omega⟩
    · exact ⟨k * ((k + 1) / 2), by rw [Nat.mul_left_comm]; congr 1; omega⟩
  obtain ⟨t, ht⟩ := h2
  rw [e, ht]
  exact ⟨t + 1, by omega⟩

/-- The end: what is taken from nought is the inverse of the number's negative. -/
theorem newton_end (x y z : Nat) (hy : y < 18446744073709551616) (h : 2 ^ 64 ∣ x * y + (2 ^ 64 - 1)) (hz : z = (18446744073709551616 - y) % 18446744073709551616) : x * z % 18446744073709551616 = 18446744073709551615 := by
  obtain ⟨t, ht⟩ := h
  have hy0 : y ≠ 0 := by
    rintro rfl
    rw [Nat.mul_zero] at ht
    omega
  have hz' : z = 18446744073709551616 - y := by rw [hz]; exact Nat.mod_eq_of_lt (by omega)
  have e : x * z + x * y = x * 18446744073709551616 := by rw [← Nat.mul_add, hz']; congr 1; omega
  omega

end Go.Proofs.YtmheoenieaemmaaDoor
