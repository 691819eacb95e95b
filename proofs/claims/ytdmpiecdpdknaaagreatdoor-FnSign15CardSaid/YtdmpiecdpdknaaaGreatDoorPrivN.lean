/-
  The numbers of a private key: the plain laws.
-/
import Derived.Test.YtdmpiecdpdknaaaGreatDoorKeys
namespace Go.Proofs.YtdmpiecdpdknaaaGreatDoor

/-- What checkPrivateKey asks of a key's numbers. -/
structure KeyN (m e d p q dp dq qi : Nat) : Prop where
  mpq : p * q = m
  p3 : 3 < p
  q3 : 3 < q
  po : p % 2 = 1
  qo : q % 2 = 1
  mo : m % 2 = 1
  pm : p < m
  qm : q < m
  dm : d < m
  edp : e * dp % (p - 1) = 1
  edq : e * dq % (q - 1) = 1
  dpd : d % (p - 1) = dp
  dqd : d % (q - 1) = dq
  inv : q % p * qi % p = 1
  qip : qi < p
  bne : bitLen p ≠ bitLen q
  cmp : q < p ∧ (bitLen q + 7) / 8 ≤ (bitLen p + 7) / 8 ∨ 2 ^ bitLen p ≤ q ∧ p < q ∧ (bitLen p + 7) / 8 ≤ (bitLen q + 7) / 8
  lp : (bitLen p + 7) / 8 ≤ (bitLen m + 7) / 8
  lq : (bitLen q + 7) / 8 ≤ (bitLen m + 7) / 8
  far : bitLen m / 2 < bitLen (p - q + (q - p)) + 100
  big : bitLen m / 2 < bitLen d
  e2 : 2 ≤ e
  eo : e % 2 = 1
  em : e ≤ 2147483647
  mb : bitLen m < 2048
  pb : bitLen p ≤ 600
  qb : bitLen q ≤ 600

theorem bitLen_Mp (a : Nat) (h : 1 ≤ a) : bitLen (Mp a) = a := by
  obtain ⟨k, rfl⟩ : ∃ k, a = k + 1 := ⟨a - 1, by omega⟩
  have hp : 0 < 2 ^ k := Nat.pow_pos (by decide)
  exact bitLen_eq (by unfold Mp; rw [Nat.pow_succ]; omega) (by unfold Mp; rw [Nat.pow_succ]; omega)
theorem bitLen_low {v k : Nat} (h : 2 ^ k ≤ v) : k < bitLen v := by
  apply Classical.byContradiction
  intro hc
  have := (bitLen_le v k).1 (by omega)
  omega

/-- 1 over q modulo p. -/
def qiOf (p q : Nat) : Nat := (q % p) ^ (p - 2) % p

theorem Duo.keyN {a b : Nat} (h : Duo a b) : KeyN (Mp a * Mp b) 65537 (secOf a b) (Mp a) (Mp b) (secOf a b % (Mp a - 1)) (secOf a b % (Mp b - 1)) (qiOf (Mp a) (Mp b)) := by
  have hbig := h.big
  have a61 := h.a61
  have b61 := h.b61
  have hs := h.sum
  have hne : a ≠ b := fun e => h.ne (by rw [e])
  have ba := bitLen_Mp a (by omega)
  have bb := bitLen_Mp b (by omega)
  have bm := h.bits
  have p1 : 2 ^ a = Mp a + 1 := by unfold Mp; have : 0 < 2 ^ a := Nat.pow_pos (by decide); omega
  have p2 : 2 ^ b = Mp b + 1 := by unfold Mp; have : 0 < 2 ^ b := Nat.pow_pos (by decide); omega
  have hpm : Mp a < Mp a * Mp b := by
    have := Nat.mul_le_mul_left (Mp a) (show 2 ≤ Mp b by omega)
    omega
  have hqm : Mp b < Mp a * Mp b := by
    have := Nat.mul_le_mul_right (Mp b) (show 2 ≤ Mp a by omega)
    omega
  have hord : a < b ∧ Mp a < Mp b ∧ 2 ^ bitLen (Mp a) ≤ Mp b ∧ 2 ^ (b - 1) ≤ Mp b - Mp a ∨ b < a ∧ Mp b < Mp a ∧ 2 ^ (a - 1) ≤ Mp a - Mp b := by
    rcases Nat.lt_or_gt_of_ne hne with hl | hl
    · left
      have := Nat.pow_le_pow_right (n := 2) (by decide) (show a + 1 ≤ b from hl)
      have e1 : 2 ^ b = 2 * 2 ^ (b - 1) := by rw [← Nat.pow_succ', show (b - 1).succ = b by omega]
      have e2 : 2 ^ (a + 1) = 2 * 2 ^ a := by rw [Nat.pow_succ, Nat.mul_comm]
      refine ⟨hl, by omega, by rw [ba]; omega, by omega⟩
    · right
      have := Nat.pow_le_pow_right (n := 2) (by decide) (show b + 1 ≤ a from hl)
      have e1 : 2 ^ a = 2 * 2 ^ (a - 1) := by rw [← Nat.pow_succ', show (a - 1).succ = a by omega]
      have e2 : 2 ^ (b + 1) = 2 * 2 ^ b := by rw [Nat.pow_succ, Nat.mul_comm]
      exact ⟨hl, by omega, by omega⟩
  refine ⟨rfl, by omega, by omega, h.odd.1, h.odd.2, h.oddN, hpm, hqm, h.dhi, ?_, ?_, rfl, rfl, ?_, Nat.mod_lt _ (by omega), by rw [ba, bb]; exact hne, ?_, ?_, ?_, ?_, ?_, by decide, by decide, by decide, ?_, ?_, ?_⟩
  · rw [Nat.mul_mod_mod]; exact h.sec1
  · rw [Nat.mul_mod_mod]; exact h.sec2
  · unfold qiOf
    rw [Nat.mul_mod_mod, ← Nat.pow_succ', show (Mp a - 2).succ = Mp a - 1 by omega, ← Nat.pow_mod]
    refine Num.fermat h.pa _ ?_
    rintro hd
    rcases h.pb.2 _ hd with e | e
    · omega
    · exact h.ne e
  · rw [ba, bb]
    rcases hord with ⟨o1, o2, o3, _⟩ | ⟨o1, o2, _⟩
    · exact .inr ⟨by rw [ba] at o3; exact o3, o2, by omega⟩
    · exact .inl ⟨o2, by omega⟩
  · rw [ba, bm]; omega
  · rw [bb, bm]; omega
  · rw [bm]
    rcases hord with ⟨o1, o2, _, o4⟩ | ⟨o1, o2, o4⟩
    · have := bitLen_low (show 2 ^ (b - 1) ≤ Mp a - Mp b + (Mp b - Mp a) by omega)
      omega
    · have := bitLen_low (show 2 ^ (a - 1) ≤ Mp a - Mp b + (Mp b - Mp a) by omega)
      omega
  · rw [bm]; exact bitLen_low h.dlo
  · rw [bm]; omega
  · rw [ba]; omega
  · rw [bb]; omega

end Go.Proofs.YtdmpiecdpdknaaaGreatDoor
