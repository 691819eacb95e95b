/-
  Masks: the plain laws (bytes exclusive-or a stream).
-/
namespace Go.Proofs.Ytgkfnmmajehobaa

/-- Bytes exclusive-or a stream. -/
def xorS (s : Nat → UInt8) (xs : List UInt8) : List UInt8 := xs.mapIdx fun i x => x ^^^ s i
theorem xorS_length (s : Nat → UInt8) (xs : List UInt8) : (xorS s xs).length = xs.length := by simp [xorS]
theorem xorS_get (s : Nat → UInt8) (xs : List UInt8) (i : Nat) : (xorS s xs)[i]? = (xs[i]?).map fun x => x ^^^ s i := by simp [xorS]
theorem xorS_twice (s : Nat → UInt8) (xs : List UInt8) : xorS s (xorS s xs) = xs := by
  apply List.ext_getElem?
  intro i
  rw [xorS_get, xorS_get]
  cases xs[i]? with
  | none => rfl
  | some x => simp [UInt8.xor_assoc]
theorem xorS_take (s : Nat → UInt8) (xs : List UInt8) (k : Nat) : xorS s (xs.take k) = (xorS s xs).take k := by
  apply List.ext_getElem?
  intro i
  rw [xorS_get, List.getElem?_take, List.getElem?_take, xorS_get]
  split <;> simp

/-- The row while it is masked: d bytes are done. -/
def partS (s : Nat → UInt8) (xs : List UInt8) (d : Nat) : List UInt8 := xs.mapIdx fun i x => if i < d then x ^^^ s i else x
theorem partS_length (s : Nat → UInt8) (xs : List UInt8) (d : Nat) : (partS s xs d).length = xs.length := by simp [partS]
theorem partS_get (s : Nat → UInt8) (xs : List UInt8) (d i : Nat) : (partS s xs d)[i]? = (xs[i]?).map fun x => if i < d then x ^^^ s i else x := by simp [partS]
theorem partS_zero (s : Nat → UInt8) (xs : List UInt8) : partS s xs 0 = xs := by
  apply List.ext_getElem?
  intro i
  rw [partS_get]
  cases xs[i]? <;> simp
theorem partS_all (s : Nat → UInt8) (xs : List UInt8) (d : Nat) (h : xs.length ≤ d) : partS s xs d = xorS s xs := by
  apply List.ext_getElem?
  intro i
  rw [partS_get, xorS_get]
  rcases Nat.lt_or_ge i xs.length with hl | hg
  · simp [show i < d by omega]
  · rw [List.getElem?_eq_none hg]; rfl
theorem partS_set (s : Nat → UInt8) (xs : List UInt8) (d : Nat) (x : UInt8) (h : xs[d]? = some x) : (partS s xs d).set d (x ^^^ s d) = partS s xs (d + 1) := by
  apply List.ext_getElem?
  intro i
  rw [List.getElem?_set, partS_get, partS_get, partS_length]
  have hl : d < xs.length := by
    rcases Nat.lt_or_ge d xs.length with h1 | h1
    · exact h1
    · rw [List.getElem?_eq_none h1] at h; cases h
  by_cases e : d = i
  · subst e
    rw [if_pos rfl, if_pos hl, h]
    simp
  · rw [if_neg e]
    cases xs[i]? with
    | none => rfl
    | some y =>
      by_cases h1 : i < d
      · simp [h1, show i < d + 1 by omega]
      · simp [h1, show ¬ i < d + 1 by omega]
theorem partS_at (s : Nat → UInt8) (xs : List UInt8) (d : Nat) : (partS s xs d)[d]? = xs[d]? := by
  rw [partS_get]
  cases xs[d]? <;> simp

/-- One byte taken up by the program's own hash: how many were before, and the state. -/
def ownStep (n : Nat) (cs : Nat × List UInt8) (b : UInt8) : Nat × List UInt8 :=
  let s1 := cs.2.set (cs.1 % n) (31 * cs.2.getD (cs.1 % n) 0 + b + UInt8.ofNat cs.1)
  (cs.1 + 1, s1.set ((cs.1 + 1) % n) (s1.getD ((cs.1 + 1) % n) 0 ^^^ s1.getD (cs.1 % n) 0))
def ownInit (n : Nat) : List UInt8 := (List.range n).map UInt8.ofNat
def ownRun (n : Nat) (cs : Nat × List UInt8) (p : List UInt8) : Nat × List UInt8 := p.foldl (ownStep n) cs
theorem ownStep_length (n : Nat) (cs : Nat × List UInt8) (b : UInt8) : (ownStep n cs b).2.length = cs.2.length := by simp [ownStep]
theorem ownRun_length (n : Nat) (cs : Nat × List UInt8) (p : List UInt8) : (ownRun n cs p).2.length = cs.2.length := by
  unfold ownRun
  induction p generalizing cs with
  | nil => rfl
  | cons b p ih => rw [List.foldl_cons, ih, ownStep_length]
theorem ownRun_count (n : Nat) (cs : Nat × List UInt8) (p : List UInt8) : (ownRun n cs p).1 = cs.1 + p.length := by
  unfold ownRun
  induction p generalizing cs with
  | nil => rfl
  | cons b p ih => rw [List.foldl_cons, ih, List.length_cons]; show cs.1 + 1 + _ = _; omega
theorem ownRun_take (n : Nat) (cs : Nat × List UInt8) (p : List UInt8) (i : Nat) (b : UInt8) (h : p[i]? = some b) : ownRun n cs (p.take (i + 1)) = ownStep n (ownRun n cs (p.take i)) b := by
  unfold ownRun
  rw [List.take_add_one, h, List.foldl_append]
  rfl
/-- What it has taken up, piece by piece. -/
def ownAll (n : Nat) (ws : List (List UInt8)) : Nat × List UInt8 := ws.foldl (ownRun n) (0, ownInit n)
theorem ownAll_length (n : Nat) (ws : List (List UInt8)) : (ownAll n ws).2.length = n := by
  unfold ownAll
  have h : ∀ cs : Nat × List UInt8, (ws.foldl (ownRun n) cs).2.length = cs.2.length := by
    induction ws with
    | nil => intro cs; rfl
    | cons p ws ih => intro cs; rw [List.foldl_cons, ih, ownRun_length]
  rw [h]
  simp [ownInit]
theorem ownAll_snoc (n : Nat) (ws : List (List UInt8)) (p : List UInt8) : ownAll n (ws ++ [p]) = ownRun n (ownAll n ws) p := by simp [ownAll]
def ownF (n : Nat) (ws : List (List UInt8)) : List UInt8 := (ownAll n ws).2.map fun b => b + UInt8.ofNat (ownAll n ws).1

end Go.Proofs.Ytgkfnmmajehobaa
