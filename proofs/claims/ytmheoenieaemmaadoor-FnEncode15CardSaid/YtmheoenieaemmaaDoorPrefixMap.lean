/-
  A map from names to bytes that a call lays entry by entry, and the look-up in it (rsa.hashPrefixes).
-/
import Derived.Test.YtmheoenieaemmaaDoorBytes
import Derived.MapKept
import Derived.Carry
namespace Go.Proofs.YtmheoenieaemmaaDoor
open Go.RowKit

def entryOf (H i : Nat) (x : ByteArray × List UInt8) : MapEntry := { key := .string x.1, val := .slice (some ⟨H + 1 + i, 0, none⟩) x.2.length x.2.length, born := i }
def entriesFrom (H : Nat) : Nat → List (ByteArray × List UInt8) → List MapEntry
  | _, [] => []
  | i, x :: es => entryOf H i x :: entriesFrom H (i + 1) es

structure MapSt (w0 w : World) (es : List (ByteArray × List UInt8)) : Prop where
  kept : Kept NoBlk w0 w
  size : w.heap.size = w0.heap.size + 1 + es.length
  map : w.heap[w0.heap.size]? = some (.map (entriesFrom w0.heap.size 0 es).toArray es.length)
  bytes : ∀ (i : Nat) (x : ByteArray × List UInt8), es[i]? = some x → BytesAt w (some ⟨w0.heap.size + 1 + i, 0, none⟩) x.2

theorem entriesFrom_append (H : Nat) (x : ByteArray × List UInt8) : ∀ (es : List (ByteArray × List UInt8)) (i : Nat), entriesFrom H i (es ++ [x]) = entriesFrom H i es ++ [entryOf H (i + es.length) x]
  | [], i => by simp [entriesFrom]
  | y :: es, i => by
    simp only [List.cons_append, entriesFrom, entriesFrom_append H x es (i + 1), List.length_cons]
    rw [show i + 1 + es.length = i + (es.length + 1) by omega]

theorem bytes_beq (a b : ByteArray) : (a == b) = decide (a = b) := by
  rw [beq_toListBytes, ByteArray.toList_eq, ByteArray.toList_eq, Bool.eq_iff_iff, beq_iff_eq, decide_eq_true_iff]
  constructor
  · intro h
    cases a; cases b
    congr 1
    exact Array.toList_inj.1 h
  · rintro rfl; rfl

theorem find_miss (H : Nat) (s : ByteArray) : ∀ (es : List (ByteArray × List UInt8)) (i j : Nat), (∀ x ∈ es, x.1 ≠ s) → Instr.findNow .string (.string s) (entriesFrom H i es) j = some none
  | [], i, j, _ => rfl
  | x :: es, i, j, h => by
    have hx : (s == x.1) = false := by
      rw [bytes_beq]; exact decide_eq_false fun e => h x (by simp) e.symm
    simp only [entriesFrom, Instr.findNow, entryOf, Instr.sameNow, hx]
    exact find_miss H s es (i + 1) (j + 1) (fun y hy => h y (by simp [hy]))

theorem find_hit (H : Nat) (x : ByteArray × List UInt8) : ∀ (es : List (ByteArray × List UInt8)) (i j k : Nat), es[k]? = some x → (∀ m y, m < k → es[m]? = some y → y.1 ≠ x.1) →
    Instr.findNow .string (.string x.1) (entriesFrom H i es) j = some (some (j + k, (entryOf H (i + k) x).val))
  | [], i, j, k, h, _ => by simp at h
  | y :: es, i, j, 0, h, _ => by
    simp only [List.getElem?_cons_zero, Option.some.injEq] at h
    subst h
    simp [entriesFrom, Instr.findNow, entryOf, Instr.sameNow, bytes_beq]
  | y :: es, i, j, k + 1, h, hf => by
    have hy : (x.1 == y.1) = false := by
      rw [bytes_beq]; exact decide_eq_false fun e => hf 0 y (by omega) rfl e.symm
    simp only [List.getElem?_cons_succ] at h
    simp only [entriesFrom, Instr.findNow, entryOf, Instr.sameNow, hy]
    have := find_hit H x es (i + 1) (j + 1) k h (fun m z hm hz => hf (m + 1) z (by omega) (by simpa using hz))
    rw [this]
    simp only [entryOf]
    rw [show j + 1 + k = j + (k + 1) by omega, show i + 1 + k = i + (k + 1) by omega]

def setO (w : World) (r : Nat) (o : Obj) : World := { w with heap := w.heap.setIfInBounds r o }
theorem setO_kept (w : World) (r : Nat) (o : Obj) : Kept (OneBlk r) w (setO w r o) :=
  ⟨rfl, rfl, rfl, by simp [setO], fun k hk hn => by simp only [setO, Array.getElem?_setIfInBounds]; rw [if_neg (fun e => hn e.symm)]⟩

section
variable {w0 w : World} {es : List (ByteArray × List UInt8)}

theorem MapSt.start (w : World) : MapSt w (w.alloc (.map #[] 0)) [] :=
  ⟨(Kept.refl _ w).alloc _, by simp, heap_alloc_new w _, fun i x h => by simp at h⟩

theorem run_lookup_hit (h : MapSt w0 w es) (k : Nat) (x : ByteArray × List UInt8) (hx : es[k]? = some x) (hf : ∀ m y, m < k → es[m]? = some y → y.1 ≠ x.1) :
    (Instr.lookup 118 (.map (some w0.heap.size)) (.string x.1) true).run Tryd.prog w = .ok (.tuple #[.slice (some ⟨w0.heap.size + 1 + k, 0, none⟩) x.2.length x.2.length, .bool true]) w := by
  have hfn := find_hit w0.heap.size x es 0 0 k hx hf
  have hg := MapKept.run_getObj_map (P := Tryd.prog) h.map
  simp only [Nat.zero_add] at hfn
  have hck : ∀ (w' : World) (e : Bool) (s : ByteArray), (Instr.checkKey e 10000 9 (.string s)).run Tryd.prog w' = .ok () w' := fun w' e s => MapKept.run_checkKey Tryd.underlying9 (show MapKept.IsKey .string (.string s) by simp [MapKept.IsKey]) e 9999
  simp only [Instr.lookup, Sem.run_bind, run_underlying Tryd.underlying118, Result.andThen_ok, hg, hck, Instr.findKey, run_underlying Tryd.underlying9, hfn, Sem.run_pure, entryOf, if_true]

theorem run_lookup_miss (h : MapSt w0 w es) (s : ByteArray) (hs : ∀ x ∈ es, x.1 ≠ s) :
    (Instr.lookup 118 (.map (some w0.heap.size)) (.string s) true).run Tryd.prog w = .ok (.tuple #[.slice none 0 0, .bool false]) w := by
  have hfn := find_miss w0.heap.size s es 0 0 hs
  have hg := MapKept.run_getObj_map (P := Tryd.prog) h.map
  have hz : (zeroValue 23).run Tryd.prog w = .ok (.slice none 0 0) w := by kernel_rfl
  have hck : ∀ (w' : World) (e : Bool) (s : ByteArray), (Instr.checkKey e 10000 9 (.string s)).run Tryd.prog w' = .ok () w' := fun w' e s => MapKept.run_checkKey Tryd.underlying9 (show MapKept.IsKey .string (.string s) by simp [MapKept.IsKey]) e 9999
  simp only [Instr.lookup, Sem.run_bind, run_underlying Tryd.underlying118, Result.andThen_ok, hg, hck, Instr.findKey, run_underlying Tryd.underlying9, hfn, Sem.run_pure, hz, if_true]

theorem run_insert (h : MapSt w0 w es) (s : ByteArray) (bs : List UInt8) (hs : ∀ x ∈ es, x.1 ≠ s) :
    ∃ w', (Instr.mapUpdate 118 (.map (some w0.heap.size)) (.string s) (.slice (some ⟨w.heap.size, 0, none⟩) bs.length bs.length)).run Tryd.prog (w.alloc (.cells (bs.map B).toArray 5)) = .ok () w' ∧ MapSt w0 w' (es ++ [(s, bs)]) := by
  have hlt : w0.heap.size < w.heap.size := by have := h.size; omega
  have hm : (w.alloc (.cells (bs.map B).toArray 5)).heap[w0.heap.size]? = some (.map (entriesFrom w0.heap.size 0 es).toArray es.length) := (Below.heap_alloc w _ _ hlt).trans h.map
  have hfn := find_miss w0.heap.size s es 0 0 hs
  have hg := MapKept.run_getObj_map (P := Tryd.prog) hm
  have hset := fun o => MapKept.run_setObj_map (P := Tryd.prog) o hm
  have hck : ∀ (w' : World) (e : Bool) (s : ByteArray), (Instr.checkKey e 10000 9 (.string s)).run Tryd.prog w' = .ok () w' := fun w' e s => MapKept.run_checkKey Tryd.underlying9 (show MapKept.IsKey .string (.string s) by simp [MapKept.IsKey]) e 9999
  refine ⟨setO (w.alloc (.cells (bs.map B).toArray 5)) w0.heap.size (.map ((entriesFrom w0.heap.size 0 es).toArray.push { key := .string s, val := .slice (some ⟨w.heap.size, 0, none⟩) bs.length bs.length, born := es.length }) (es.length + 1)), ?_, ?_⟩
  · simp only [Instr.mapUpdate, Sem.run_bind, run_underlying Tryd.underlying118, Result.andThen_ok, hg, hck, Instr.findKey, run_underlying Tryd.underlying9, hfn, Sem.run_pure, hset]
    rfl
  have hsz : (w.alloc (.cells (bs.map B).toArray 5)).heap.size = w.heap.size + 1 := World.size_alloc _ _
  generalize hw1 : w.alloc (.cells (bs.map B).toArray 5) = w1 at *
  have hk1 := setO_kept w1 w0.heap.size (.map ((entriesFrom w0.heap.size 0 es).toArray.push { key := .string s, val := .slice (some ⟨w.heap.size, 0, none⟩) bs.length bs.length, born := es.length }) (es.length + 1))
  refine ⟨(hw1 ▸ h.kept.alloc _ : Kept NoBlk w0 w1).fresh hk1 (Nat.le_refl _), ?_, ?_, ?_⟩
  · simp only [setO, Array.size_setIfInBounds, hsz, h.size, List.length_append, List.length_singleton]; omega
  · simp only [setO, Array.getElem?_setIfInBounds, hsz, if_true, List.length_append, List.length_singleton]
    rw [if_pos (by omega), entriesFrom_append, h.size]
    simp [entryOf]
  · intro i x hx
    have hb0 : BytesAt w1 (some ⟨w0.heap.size + 1 + i, 0, none⟩) x.2 := by
      subst hw1
      rw [List.getElem?_append] at hx
      split at hx
      · exact (h.bytes i x hx).alloc _
      · rename_i hi
        rcases Nat.lt_or_ge (i - es.length) 1 with h1 | h1
        · have : i = es.length := by omega
          subst this
          simp at hx
          subst hx
          exact bytesAt_new w 5 bs _ h.size.symm
        · rw [List.getElem?_eq_none (by simpa using h1)] at hx; cases hx
    exact hb0.kept hk1 (fun a ha => by cases ha; show ¬ (w0.heap.size + 1 + i = w0.heap.size); omega)

theorem wpList_insert_entry {ops : Array Oper} {rest : List Oper} {o : Oper} {a : Act} {Q : Exit → Act → World → Prop} {W : World} (hgd : o.guard = none) (m k x : Operand) (ho : o.op = .insert 118 m k x)
    (h : MapSt w0 w es) (s : ByteArray) (bs : List UInt8) (hm : a.eval m = .map (some w0.heap.size)) (hk : a.eval k = .string s) (hx : a.eval x = .slice (some ⟨w.heap.size, 0, none⟩) bs.length bs.length)
    (hs : ∀ x ∈ es, x.1 ≠ s) (hw : W = w.alloc (.cells (bs.map B).toArray 5))
    (hr : ∀ w', MapSt w0 w' (es ++ [(s, bs)]) → wpList Tryd.prog ops Q rest (a.put o.dst undef) w') : wpList Tryd.prog ops Q (o :: rest) a W := by
  subst hw
  refine wpList_plain hgd fun K hK => ?_
  obtain ⟨w', hrun, hst⟩ := run_insert h s bs hs
  unfold Oper.wp execOp
  simp only [ho, hm, hk, hx, Sem.run_bind, hrun, Result.andThen_ok, Sem.run_pure]
  exact hK _ _ (hr w' hst)
end

end Go.Proofs.YtmheoenieaemmaaDoor
