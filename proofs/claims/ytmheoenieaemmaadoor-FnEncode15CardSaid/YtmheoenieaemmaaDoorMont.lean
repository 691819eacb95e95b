/-
  Montgomery's multiplication: the plain laws.
-/
import Derived.Test.YtmheoenieaemmaaDoorMulVV
namespace Go.Proofs.YtmheoenieaemmaaDoor
open Go.RowKit

theorem mont_step (n av mv d Y i c c1 c2 s c' q B0 : Nat) (us us1 us2 : List Nat) (hn : us2.length + 1 = n)
    (h1 : val us1 + Pw n * c1 = val us + av * d) (h2 : val (0 :: us2) + Pw n * c2 = val us1 + mv * Y) (h3 : c1 + c2 + c = s + 18446744073709551616 * c') (hI : Pw i * (val us + Pw n * c) = av * B0 + mv * q) :
    Pw (i + 1) * (val (us2 ++ [s]) + Pw n * c') = av * (B0 + Pw i * d) + mv * (q + Pw i * Y) := by
  have e1 : 18446744073709551616 * (val (us2 ++ [s]) + Pw n * c') = (val us + Pw n * c) + av * d + mv * Y := by
    rw [val_snoc, val, Nat.zero_add] at *
    have a1 : 18446744073709551616 * (Pw us2.length * s) = Pw n * s := by rw [← hn, Pw_succ, Nat.mul_assoc]
    have a2 : Pw n * c1 + Pw n * c2 + Pw n * c = Pw n * s + 18446744073709551616 * (Pw n * c') := by
      rw [← Nat.mul_add, ← Nat.mul_add, h3, Nat.mul_add, Nat.mul_left_comm]
    rw [Nat.mul_add, Nat.mul_add, a1]
    omega
  rw [Pw_succ, Nat.mul_comm 18446744073709551616 (Pw i), Nat.mul_assoc, e1, Nat.mul_add, Nat.mul_add, hI, Nat.mul_add, Nat.mul_add, Nat.mul_left_comm (Pw i) av d, Nat.mul_left_comm (Pw i) mv Y]
  omega

/-- The lowest word falls to nought. -/
theorem mont_low (u m k Y : Nat) (hk : m * k % 18446744073709551616 = 18446744073709551615) (hY : Y = u * k % 18446744073709551616) : (u + m * Y) % 18446744073709551616 = 0 := by
  obtain ⟨t, ht⟩ : ∃ t, m * k = 18446744073709551616 * t + 18446744073709551615 := ⟨m * k / 18446744073709551616, by omega⟩
  obtain ⟨r, hr⟩ : ∃ r, u * k = 18446744073709551616 * r + Y := ⟨u * k / 18446744073709551616, by omega⟩
  have e : u + m * Y + 18446744073709551616 * (m * r) = 18446744073709551616 * (u * t + u) := by
    have h : m * (u * k) = m * (18446744073709551616 * r) + m * Y := by rw [hr, Nat.mul_add]
    have h' : m * (u * k) = u * (18446744073709551616 * t) + u * 18446744073709551615 := by rw [← Nat.mul_add, ← ht, Nat.mul_left_comm]
    rw [Nat.mul_left_comm m 18446744073709551616 r] at h
    rw [Nat.mul_left_comm u 18446744073709551616 t] at h'
    rw [Nat.mul_add]
    omega
  have := congrArg (· % 18446744073709551616) e
  simpa [Nat.add_mul_mod_self_left, Nat.mul_mod_right] using this

theorem val_mod (x : Nat) (xs : List Nat) (h : x < 18446744073709551616) : val (x :: xs) % 18446744073709551616 = x := by rw [val]; omega

theorem mont_head (n mv Y c2 u k m0 : Nat) (us1 us2 ms : List Nat) (hn : us2.length = n) (h1 : 1 ≤ n) (w2 : Wd us2) (wm : m0 < 18446744073709551616) (hmv : mv = val (m0 :: ms)) (hu1 : u < 18446744073709551616)
    (h2 : val us2 + Pw n * c2 = val (u :: us1) + mv * Y) (hk : m0 * k % 18446744073709551616 = 18446744073709551615) (hY : Y = u * k % 18446744073709551616) : ∃ us, us2 = 0 :: us := by
  cases us2 with
  | nil => simp at hn; omega
  | cons z zs =>
    refine ⟨zs, ?_⟩
    have hz := w2 z (List.mem_cons_self ..)
    have e := congrArg (· % 18446744073709551616) h2
    obtain ⟨j, rfl⟩ : ∃ j, n = j + 1 := ⟨n - 1, by omega⟩
    simp only [Pw_succ, Nat.mul_assoc, Nat.add_mul_mod_self_left, val_mod z zs hz] at e
    rw [Nat.add_mod, val_mod u us1 hu1, Nat.mul_mod, hmv, val_mod m0 ms wm, ← Nat.mul_mod_mod, Nat.mod_mod, ← Nat.mul_mod_mod] at e
    have e2 := mont_low u m0 k Y hk hY
    rw [Nat.add_mod, Nat.mod_eq_of_lt hu1] at e2
    simp only [Nat.mod_mod, Nat.mul_mod_mod] at e e2
    rw [e2] at e
    rw [e]

theorem mont_end (n av bv mv q S : Nat) (h : Pw n * S = av * bv + mv * q) (hq : q < Pw n) (ha : av < mv) (hb : bv < Pw n) : S < 2 * mv := by
  apply Classical.byContradiction
  intro hc
  have h1 : Pw n * (2 * mv) ≤ Pw n * S := Nat.mul_le_mul_left _ (by omega)
  have h2 : av * bv ≤ mv * bv := Nat.mul_le_mul_right _ (by omega)
  have h3 : mv * (bv + q) + mv * 2 ≤ mv * (2 * Pw n) := by rw [← Nat.mul_add]; exact Nat.mul_le_mul_left _ (by omega)
  rw [Nat.mul_add] at h3
  have h4 : Pw n * (2 * mv) = mv * (2 * Pw n) := by rw [Nat.mul_left_comm, Nat.mul_comm (Pw n) mv, Nat.mul_left_comm]
  omega

end Go.Proofs.YtmheoenieaemmaaDoor
