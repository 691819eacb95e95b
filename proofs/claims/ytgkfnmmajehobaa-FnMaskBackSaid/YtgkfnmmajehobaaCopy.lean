/-
  copy onto a block of bytes that is known whole.
-/
import Derived.Test.YtgkfnmmajehobaaBytes
import Derived.Laws.CopyOwn
namespace Go.Proofs.Ytgkfnmmajehobaa
open Go.RowKit

theorem length_take_min {α : Type} (l : List α) (k n : Nat) (hk : k = min l.length n) : (l.take k).length = k := by rw [List.length_take]; omega

theorem setRow_kept (w : World) (g : Nat) (cs : Array Value) : Kept (OneBlk g) w (w.setRow g cs) :=
  ⟨rfl, rfl, rfl, by simp, fun k _ hn => setRow_other w g k cs hn⟩

theorem wpList_copy_at {P : Program} {w : World} {ops : Array Oper} {rest : List Oper} {o : Oper} {a : Act} {Q : Exit → Act → World → Prop} (hgd : o.guard = none) (d s : Operand) (dT sT : TypeId)
    (ho : o.op = .call { callee := .builtin .copy, args := #[d, s], argTypes := #[dT, sT] }) (elem : TypeId) (hu : P.underlying dT = some (.slice elem)) (hsz : (P.info? elem).map (·.size) = some 1)
    (dp sp : Option Addr) (dLen dCap sLen sCap : Nat) (hd : a.eval d = .slice dp dLen dCap) (hs : a.eval s = .slice sp sLen sCap)
    (g off : Nat) (L : List Value) (t : TypeId) (hg : Blk w g t L.toArray) (vs : List Value) (hsp : At w sp vs) (hsl : sLen = vs.length) (k : Nat) (hk : k = min vs.length dLen)
    (hdp : 0 < k → dp = some ⟨g, off, none⟩) (hfit : off + k ≤ L.length) (h1 : ∀ v ∈ vs, v.oneCell' = true)
    (h : ∀ w', Blk w' g t (splice L off (vs.take k)).toArray → Kept (OneBlk g) w w' → wpList P ops Q rest (a.put o.dst (.int .i64 (k : Int))) w') : wpList P ops Q (o :: rest) a w := by
  subst hsl
  rcases Nat.eq_zero_or_pos k with h0 | h0
  · refine wpList_copy_nothing hgd d s dT sT ho elem hu hsz dp sp dLen dCap _ sCap hd hs (by show min _ _ = 0; omega) ?_
    have := h w (by rw [h0]; simpa [splice] using hg) (Kept.refl _ _)
    rw [h0] at this
    exact this
  · obtain ⟨b, o2, rfl, hb, hc⟩ := hsp.at_ (k := 0) (by omega)
    obtain rfl := hdp h0
    have hl : (vs.take k).length = k := length_take_min vs k dLen hk
    refine wpList_copy_own hgd d s dT sT ho elem hu hsz g off dLen dCap ⟨b, o2, none⟩ vs.length sCap hd hs L.toArray t hg (vs.take k) (by rw [hl]; exact hk) ?_ (by rw [hl]; simpa using hfit)
      (fun v hv => h1 v (List.mem_of_mem_take hv)) ?_
    · intro j v hv
      have e : (⟨b, o2, none⟩ : Addr).add j = ⟨b, o2 + j, none⟩ := by
        unfold Addr.add
        by_cases hj : j = 0 <;> simp [hj]
      rw [e]
      rw [List.getElem?_take] at hv
      split at hv
      · exact hc j v hv
      · cases hv
    · rw [hl]
      have hs' := setRow_heap w g L.toArray (splice L off (vs.take k)).toArray t (0, 0) hg
      have := h (w.setRow g (splice L off (vs.take k)).toArray) hs' (setRow_kept _ _ _)
      simpa [splice, hl, goInt] using this

theorem infoSize : (Try.prog.info? 5).map (·.size) = some 1 := by kernel_rfl

/-- copy of bytes onto a block of bytes. -/
theorem wpList_copy_bytes {w : World} {ops : Array Oper} {rest : List Oper} {o : Oper} {a : Act} {Q : Exit → Act → World → Prop} (hgd : o.guard = none) (d s : Operand)
    (ho : o.op = .call { callee := .builtin .copy, args := #[d, s], argTypes := #[24, 24] })
    (dp sp : Option Addr) (dLen dCap sLen sCap : Nat) (hd : a.eval d = .slice dp dLen dCap) (hs : a.eval s = .slice sp sLen sCap)
    (g off : Nat) (L : List Value) (hg : Blk w g 5 L.toArray) (xs : List UInt8) (hsp : BytesAt w sp xs) (hsl : sLen = xs.length) (k : Nat) (hk : k = min xs.length dLen)
    (hdp : 0 < k → dp = some ⟨g, off, none⟩) (hfit : off + k ≤ L.length)
    (h : ∀ w', Blk w' g 5 (splice L off ((xs.take k).map B)).toArray → Kept (OneBlk g) w w' → wpList Try.prog ops Q rest (a.put o.dst (.int .i64 (k : Int))) w') : wpList Try.prog ops Q (o :: rest) a w :=
  wpList_copy_at hgd d s 24 24 ho 5 Try.underlying24 infoSize dp sp dLen dCap sLen sCap hd hs g off L 5 hg (xs.map B) hsp (by simpa using hsl) k (by simpa using hk) hdp hfit (oneCell_bytes xs)
    (fun w' h1 h2 => h w' (by rw [List.map_take]; exact h1) h2)

/-- copy, as it runs. -/
theorem run_copy_bytes (w : World) (ty : TypeId) (dp sp : Option Addr) (dLen dCap sLen sCap : Nat) (g off : Nat) (L : List Value) (t : TypeId) (hg : Blk w g t L.toArray) (xs : List UInt8) (hsp : BytesAt w sp xs) (hsl : sLen = xs.length) (k : Nat) (hk : k = min xs.length dLen)
    (hdp : 0 < k → dp = some ⟨g, off, none⟩) (hfit : off + k ≤ L.length) :
    ∃ w', (Builtin.copy_ #[24, 24] ty #[.slice dp dLen dCap, .slice sp sLen sCap]).run Try.prog w = .ok (.int .i64 (k : Int)) w' ∧ Blk w' g t (splice L off ((xs.take k).map B)).toArray ∧ Kept (OneBlk g) w w' := by
  subst hsl
  rcases Nat.eq_zero_or_pos k with h0 | h0
  · refine ⟨w, ?_, by rw [h0]; simpa [splice] using hg, Kept.refl _ _⟩
    rw [run_copy_none w _ _ ty 5 dp sp dLen dCap _ sCap Try.underlying24 infoSize (by show min _ _ = 0; omega), h0]
    rfl
  · obtain ⟨b, o2, rfl, hb, hc⟩ := BytesAt.at_ hsp (k := 0) (by omega)
    obtain rfl := hdp h0
    have hl : ((xs.take k).map B).length = k := by rw [List.length_map]; exact length_take_min xs k dLen hk
    have hr := run_copy_row (P := Try.prog) w 24 24 ty 5 g off dLen dCap ⟨b, o2, none⟩ xs.length sCap L.toArray t ((xs.take k).map B) Try.underlying24 infoSize hg (by rw [hl]; exact hk)
      (by
        intro j v hv
        have e : (⟨b, o2, none⟩ : Addr).add j = ⟨b, o2 + j, none⟩ := by
          unfold Addr.add
          by_cases hj : j = 0 <;> simp [hj]
        rw [e]
        rw [List.getElem?_map] at hv
        cases hx : (xs.take k)[j]? with
        | none => rw [hx] at hv; cases hv
        | some x =>
          rw [hx] at hv
          simp only [Option.map_some, Option.some.injEq] at hv
          subst hv
          rw [List.getElem?_take] at hx
          split at hx
          · exact hc j x hx
          · cases hx)
      (by rw [hl]; simpa using hfit) (oneCell_bytes _)
    refine ⟨_, hr.trans (by rw [hl]; rfl), ?_, setRow_kept _ _ _⟩
    have hs' := setRow_heap w g L.toArray (splice L off ((xs.take k).map B)).toArray t (0, 0) hg
    have hmin : min k xs.length = k := by omega
    simpa [splice, hmin, Blk] using hs'

section
variable {α : Type} (L vs : List α) (off : Nat)
theorem getElem?_splice (h : off + vs.length ≤ L.length) (j : Nat) : (splice L off vs)[j]? = if off ≤ j ∧ j < off + vs.length then vs[j - off]? else L[j]? := by
  unfold splice
  rw [List.getElem?_append, List.length_take]
  split
  · rename_i h1
    rw [List.getElem?_take, if_pos (by omega), if_neg (by omega)]
  · rename_i h1
    rw [List.getElem?_append]
    split
    · rename_i h2
      rw [if_pos (by omega)]
      congr 1; omega
    · rename_i h2
      rw [if_neg (by omega), List.getElem?_drop]
      congr 1; omega
theorem splice_set (i : Nat) (v : α) (hi : i < vs.length) (h : off + vs.length ≤ L.length) : (splice L off vs).set (off + i) v = splice L off (vs.set i v) := by
  apply List.ext_getElem?
  intro j
  rw [List.getElem?_set, getElem?_splice L vs off h, getElem?_splice L (vs.set i v) off (by simpa using h), length_splice L off vs h]
  simp only [List.length_set, List.getElem?_set]
  by_cases hj : off + i = j
  · subst hj
    rw [if_pos rfl, if_pos (by omega), if_pos (by omega), if_pos (by omega), if_pos hi]
  · rw [if_neg hj]
    split
    · rw [if_neg (by omega)]
    · rfl
theorem splice_splice (us : List α) (h : off + vs.length ≤ L.length) (hu : us.length = vs.length) : splice (splice L off vs) off us = splice L off us := by
  apply List.ext_getElem?
  intro j
  rw [getElem?_splice _ us off (by rw [length_splice L off vs h]; omega), getElem?_splice L vs off h, getElem?_splice L us off (by omega)]
  split
  · rfl
  · rw [if_neg (by omega)]
theorem splice_app (us : List α) (h : off + vs.length + us.length ≤ L.length) : splice (splice L off vs) (off + vs.length) us = splice L off (vs ++ us) := by
  apply List.ext_getElem?
  intro j
  rw [getElem?_splice _ us _ (by rw [length_splice L off vs (by omega)]; omega), getElem?_splice L vs off (by omega), getElem?_splice L (vs ++ us) off (by rw [List.length_append]; omega), List.length_append]
  by_cases h1 : off + vs.length ≤ j ∧ j < off + vs.length + us.length
  · rw [if_pos h1, if_pos (by omega), List.getElem?_append_right (by omega)]
    congr 1; omega
  · rw [if_neg h1]
    by_cases h2 : off ≤ j ∧ j < off + vs.length
    · rw [if_pos h2, if_pos (by omega), List.getElem?_append_left (by omega)]
    · rw [if_neg h2, if_neg (by omega)]
theorem splice_one (k : Nat) (v : α) (hk : k < vs.length) (h : off + vs.length ≤ L.length) : splice (splice L off vs) (off + k) [v] = splice L off (vs.set k v) := by
  rw [← splice_set L vs off k v hk h]
  apply List.ext_getElem?
  intro j
  rw [getElem?_splice _ [v] _ (by rw [length_splice L off vs h]; simp; omega), List.getElem?_set, length_splice L off vs h]
  by_cases hj : off + k = j
  · subst hj
    rw [if_pos (by simp), if_pos rfl, if_pos (by omega)]
    simp
  · rw [if_neg (by simp; omega), if_neg hj]
theorem splice_nil : splice L off ([] : List α) = L := by simp [splice]
end

end Go.Proofs.Ytgkfnmmajehobaa
