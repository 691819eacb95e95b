/-
  Hashes in blocks of 64 bytes: the plain laws (whatever is done with a block).
-/
namespace Go.Proofs.Ytgkfnmmajehobaa

section
variable {S : Type} (blk : S → List UInt8 → S)
/-- The state after i blocks of m. -/
def hsF (h : S) (m : List UInt8) : Nat → S
  | 0 => h
  | i + 1 => blk (hsF h m i) ((m.drop (64 * i)).take 64)
theorem hsF_append (h : S) (m p : List UInt8) (i : Nat) (hi : 64 * i ≤ m.length) : hsF blk h (m ++ p) i = hsF blk h m i := by
  induction i with
  | zero => rfl
  | succ i ih =>
    unfold hsF
    rw [ih (by omega), List.drop_append_of_le_length (by omega), List.take_append_of_le_length (by rw [List.length_drop]; omega)]
theorem hsF_from (h : S) (m p : List UInt8) (q i : Nat) (hq : m.length = 64 * q) : hsF blk h (m ++ p) (q + i) = hsF blk (hsF blk h m q) p i := by
  induction i with
  | zero => exact hsF_append blk h m p q (by omega)
  | succ i ih =>
    have e : (m ++ p).drop (64 * (q + i)) = p.drop (64 * i) := by
      rw [show 64 * (q + i) = m.length + 64 * i by omega, List.drop_length_add_append]
    show blk (hsF blk h (m ++ p) (q + i)) (((m ++ p).drop (64 * (q + i))).take 64) = blk _ _
    rw [ih, e]

/-- The state once m has been taken up, and what is not yet. -/
def shaH (h : S) (m : List UInt8) : S := hsF blk h m (m.length / 64)
def tailM (m : List UInt8) : List UInt8 := m.drop (64 * (m.length / 64))
theorem tailM_length (m : List UInt8) : (tailM m).length = m.length % 64 := by
  unfold tailM
  rw [List.length_drop]; omega
/-- Less than a block more. -/
theorem shaH_less (h : S) (m p : List UInt8) (hl : m.length % 64 + p.length < 64) : shaH blk h (m ++ p) = shaH blk h m ∧ tailM (m ++ p) = tailM m ++ p := by
  have hq : (m ++ p).length / 64 = m.length / 64 := by rw [List.length_append]; omega
  unfold shaH tailM
  rw [hq]
  exact ⟨hsF_append blk h m p _ (by omega), List.drop_append_of_le_length (by omega)⟩
/-- A block is filled. -/
theorem shaH_fill (h : S) (m p : List UInt8) (hl : m.length % 64 + p.length = 64) : shaH blk h (m ++ p) = blk (shaH blk h m) (tailM m ++ p) ∧ tailM (m ++ p) = [] := by
  have hq : (m ++ p).length / 64 = m.length / 64 + 1 := by rw [List.length_append]; omega
  unfold shaH tailM
  rw [hq]
  refine ⟨?_, List.drop_eq_nil_of_le (by rw [List.length_append]; omega)⟩
  show blk (hsF blk h (m ++ p) (m.length / 64)) (((m ++ p).drop (64 * (m.length / 64))).take 64) = _
  rw [hsF_append blk h m p _ (by omega), List.drop_append_of_le_length (by omega), List.take_of_length_le (by rw [List.length_append, List.length_drop]; omega)]
/-- At a block's end: whole blocks, and the rest. -/
theorem shaH_more (h : S) (m p : List UInt8) (hl : m.length % 64 = 0) : shaH blk h (m ++ p) = hsF blk (shaH blk h m) p (p.length / 64) ∧ tailM (m ++ p) = tailM p := by
  have hm : m.length = 64 * (m.length / 64) := by omega
  have hq : (m ++ p).length / 64 = m.length / 64 + p.length / 64 := by rw [List.length_append]; omega
  unfold shaH tailM
  rw [hq]
  refine ⟨hsF_from blk h m p _ _ hm, ?_⟩
  rw [show 64 * (m.length / 64 + p.length / 64) = m.length + 64 * (p.length / 64) by omega, List.drop_length_add_append]
end

end Go.Proofs.Ytgkfnmmajehobaa
