/-
  impl.Decrypt.
-/
import Derived.Test.YtdmpiecdpdknaaaGreatDoorPrivNo
import Derived.Test.YtdmpiecdpdknaaaGreatDoorKeyOf
namespace Go.Proofs.YtdmpiecdpdknaaaGreatDoor
open Go.RowKit

section
variable {a b : Nat} (h : Duo a b)
include h
theorem Duo.dp_pos : 0 < secOf a b % (Mp a - 1) := by
  have h1 := h.sec1
  have h2 := h.big
  rw [Nat.mul_mod] at h1
  generalize secOf a b % (Mp a - 1) = x at *
  apply Nat.pos_of_ne_zero
  rintro rfl
  rw [Nat.mul_zero, Nat.zero_mod] at h1
  cases h1
theorem Duo.dq_pos : 0 < secOf a b % (Mp b - 1) := by
  have h1 := h.sec2
  rw [Nat.mul_mod] at h1
  generalize secOf a b % (Mp b - 1) = x at *
  apply Nat.pos_of_ne_zero
  rintro rfl
  rw [Nat.mul_zero, Nat.zero_mod] at h1
  cases h1
theorem Duo.inv : Mp b * qiOf (Mp a) (Mp b) % Mp a = 1 := by
  have h1 := h.keyN.inv
  rw [Nat.mod_mul_mod] at h1
  exact h1
theorem Duo.crt (c : Nat) : (((c % Mp a) ^ (secOf a b % (Mp a - 1)) % Mp a + Mp a - ((c % Mp b) ^ (secOf a b % (Mp b - 1)) % Mp b) % Mp a) % Mp a * qiOf (Mp a) (Mp b) % Mp a * (Mp b % (Mp a * Mp b)) % (Mp a * Mp b) + (c % Mp b) ^ (secOf a b % (Mp b - 1)) % Mp b) % (Mp a * Mp b) = c ^ secOf a b % (Mp a * Mp b) := by
  refine Num.crt_join h.pa h.pb h.ne h.inv (X := c ^ secOf a b) ?_ ?_
  · rw [← Nat.pow_mod]; exact Num.pow_mod_exp h.pa c _ h.dp_pos
  · rw [← Nat.pow_mod]; exact Num.pow_mod_exp h.pb c _ h.dq_pos
theorem Duo.forth (e : Nat) (he : e = 65537) (c : Nat) (hc : c < Mp a * Mp b) : (c ^ secOf a b % (Mp a * Mp b)) ^ e % (Mp a * Mp b) = c := by
  have hb : ∀ x, x ^ (e * secOf a b) % (Mp a * Mp b) = x % (Mp a * Mp b) := by intro x; rw [he]; exact h.back x
  rw [← Nat.pow_mod, ← Nat.pow_mul, Nat.mul_comm, hb, Nat.mod_eq_of_lt hc]
theorem Duo.backth (e : Nat) (he : e = 65537) (c : Nat) (hc : c < Mp a * Mp b) : (c ^ e % (Mp a * Mp b)) ^ secOf a b % (Mp a * Mp b) = c := by
  have hb : ∀ x, x ^ (e * secOf a b) % (Mp a * Mp b) = x % (Mp a * Mp b) := by intro x; rw [he]; exact h.back x
  rw [← Nat.pow_mod, ← Nat.pow_mul, hb, Nat.mod_eq_of_lt hc]
end

/-- What Decrypt leaves. -/
def DecB (m X : Nat) (w : World) (x : Ending) (w' : World) : Prop :=
  ∃ (A : Option Addr) (c g : Nat), x = .returned (.tuple #[.slice A ((bitLen m + 7) / 8) c, .bool true]) ∧ w.heap.size ≤ g ∧ w'.ownsRow g 5 1 (.slice A ((bitLen m + 7) / 8) c) ((bitLen m + 7) / 8) ((enc ((bitLen m + 7) / 8) X).map B) ∧ Kept NoBlk w w'

theorem KeyAt.still {a b : Nat} {w w' : World} {v : Value} (h : KeyAt a b w v) (k : Kept NoBlk w w') : KeyAt a b w' v := by
  obtain ⟨aN, aD, aP, aQ, cN, cD, cP, cQ, rfl, hN, hD, hP, hQ, kN, kD, kP, kQ⟩ := h
  exact ⟨aN, aD, aP, aQ, cN, cD, cP, cQ, rfl, hN.still k, hD.still k, hP.still k, hQ.still k, kN, kD, kP, kQ⟩

/-- The primitive, by both roads. -/
theorem Duo.decC {a b : Nat} (h : Duo a b) (e : Nat) (he : e = 65537) (w : World) (pk : Nat) (hpk : PrivAt w pk (Mp a * Mp b) e (secOf a b) (Mp a) (Mp b) (secOf a b % (Mp a - 1)) (secOf a b % (Mp b - 1)) (qiOf (Mp a) (Mp b))) (A : Option Addr) (cap : Nat) (cb : List UInt8) (chk : Bool)
    (hA : BytesAt w A cb) (hc : cb.length ≤ cap) (hcl : cb.length ≤ (bitLen (Mp a * Mp b) + 7) / 8) (hcm : num cb < Mp a * Mp b) :
    Calls Tryz.prog 45 #[.pointer (some ⟨pk, 0, none⟩), .slice A cb.length cap, .bool chk] w (DecOut (Mp a * Mp b) (num cb ^ secOf a b % (Mp a * Mp b)) w) := by
  have K := h.keyN
  have hp1 := h.big
  exact decC_nm w pk _ e _ _ _ _ _ _ (num cb) _ _ _ _ _ _ A cap cb chk hpk hA hc hcl rfl hcm K.pm K.qm K.p3 K.q3 K.po K.qo K.mo (by rw [← K.dpd]; exact Nat.le_of_lt (Nat.mod_lt _ (by omega))) (by rw [← K.dqd]; exact Nat.le_of_lt (Nat.mod_lt _ (by omega))) K.mb K.pb K.qb ⟨by omega, by omega⟩ rfl rfl rfl rfl rfl (h.crt _) (h.forth e he _ hcm)
theorem Duo.decN {a b : Nat} (h : Duo a b) (e : Nat) (he : e = 65537) (w : World) (pk : Nat) (hpk : PrivNo w pk (Mp a * Mp b) e (secOf a b)) (A : Option Addr) (cap : Nat) (cb : List UInt8) (chk : Bool)
    (hA : BytesAt w A cb) (hc : cb.length ≤ cap) (hcl : cb.length ≤ (bitLen (Mp a * Mp b) + 7) / 8) (hcm : num cb < Mp a * Mp b) :
    Calls Tryz.prog 45 #[.pointer (some ⟨pk, 0, none⟩), .slice A cb.length cap, .bool chk] w (DecOut (Mp a * Mp b) (num cb ^ secOf a b % (Mp a * Mp b)) w) := by
  have K := h.keyN
  exact decN_nm w pk _ e _ (num cb) _ A cap cb chk hpk hA hc hcl rfl hcm K.dm K.mo K.mb ⟨by omega, by omega⟩ rfl (h.forth e he _ hcm)

end Go.Proofs.YtdmpiecdpdknaaaGreatDoor
