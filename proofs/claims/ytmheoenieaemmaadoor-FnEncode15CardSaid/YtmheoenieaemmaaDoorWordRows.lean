/-
  Rows of words: make, clear, copy.
-/
import Derived.Test.YtmheoenieaemmaaDoorNat
import Derived.Test.YtmheoenieaemmaaDoorCopy
namespace Go.Proofs.YtmheoenieaemmaaDoor
open Go.RowKit

theorem infoWord : (Tryd.prog.info? 68).map (fun i => (i.zero, i.size, i.bytes)) = some (some (.int .u64 0), 1, 8) := by kernel_rfl
theorem infoSizeW : (Tryd.prog.info? 68).map (·.size) = some 1 := by kernel_rfl
theorem oneCell_words (xs : List Nat) : ∀ u ∈ xs.map U, u.oneCell' = true := by
  intro u hu
  obtain ⟨x, _, rfl⟩ := List.mem_map.1 hu
  rfl

def noughtRow (n : Nat) : Array Value := ((List.replicate n 0).map U).toArray

theorem make_words (w : World) (n c : Nat) (hn : n ≤ c) (hc : c ≤ 17592186044416) :
    (Instr.makeSlice 132 (.int .i64 (n : Int)) (.int .i64 (c : Int))).run Tryd.prog w = .ok (.slice (some ⟨w.heap.size, 0, none⟩) n c) (w.alloc (.cells (noughtRow c) 68)) := by
  obtain ⟨i, hi, hz0, hz1, hz2⟩ := info_parts infoWord
  have h := run_make (P := Tryd.prog) w 132 68 i (.int .u64 0) Tryd.underlying132 hi hz0 .i64 .i64 n c (by omega) (by omega) (by rw [hz2]; omega) (by omega)
  have e : madeCells (Value.int IntKind.u64 0).cells ((c : Int).toNat * i.size) = noughtRow c := by
    apply Array.toList_inj.1
    rw [hz1, show (Value.int IntKind.u64 0).cells = #[Value.int IntKind.u64 0] from rfl, toList_madeCells_one]
    simp [noughtRow, U]
  rw [h, e]
  simp only [Int.toNat_natCast]

theorem zeroCells_words (n : Nat) : (Builtin.zeroCells (Value.int IntKind.u64 0).cells n).toList = (List.replicate n 0).map U := by
  rw [show (Value.int IntKind.u64 0).cells = #[Value.int IntKind.u64 0] from rfl]
  unfold Builtin.zeroCells
  apply List.ext_getElem
  · simp
  · intro i h1 h2
    simp [U, Nat.mod_one]

theorem run_clear_words (w : World) (ty : TypeId) (g off n c : Nat) (L : List Value) (t : TypeId) (hg : Blk w g t L.toArray) (hfit : off + n ≤ L.length) :
    ∃ w', (Builtin.clear_ #[132] ty #[.slice (some ⟨g, off, none⟩) n c]).run Tryd.prog w = .ok (.tuple #[]) w' ∧ Blk w' g t (splice L off ((List.replicate n 0).map U)).toArray ∧ Kept (OneBlk g) w w' := by
  obtain ⟨i, hi, hz0, hz1, hz2⟩ := info_parts infoWord
  rcases Nat.eq_zero_or_pos n with h0 | h0
  · subst h0
    refine ⟨w, ?_, by simpa [splice] using hg, Kept.refl _ _⟩
    simp [Builtin.clear_, run_underlying Tryd.underlying132]
  · have hst := run_storeCells_at (P := Tryd.prog) g off t ((List.replicate n 0).map U) 0 L.toArray w hg (by simpa using hfit) (oneCell_words _)
    refine ⟨w.setRow g (splice L off ((List.replicate n 0).map U)).toArray, ?_, ?_, setRow_kept _ g _⟩
    · obtain ⟨m, rfl⟩ : ∃ m, n = m + 1 := ⟨n - 1, by omega⟩
      have hz : (zeroValue 68).run Tryd.prog w = .ok (.int .u64 0) w := by
        simp [zeroValue, typeInfo, hi, hz0]
      have e : splice L off ((List.replicate (m + 1) 0).map U) = L.take (off + 0) ++ (List.replicate (m + 1) 0).map U ++ L.drop (off + 0 + ((List.replicate (m + 1) 0).map U).length) := by simp [splice]
      rw [e]
      simp only [Builtin.clear_]
      simp [run_underlying Tryd.underlying132, hz, zeroCells_words]
      simp at hst
      rw [hst]
      rfl
    · have hs' := setRow_heap w g L.toArray (splice L off ((List.replicate n 0).map U)).toArray t (0, 0) hg
      exact hs'

theorem wpList_clear_words {w : World} {ops : Array Oper} {rest : List Oper} {o : Oper} {a : Act} {Q : Exit → Act → World → Prop} (hgd : o.guard = none) (d : Operand)
    (ho : o.op = .call { callee := .builtin .clear, args := #[d], argTypes := #[132] }) (g off n c : Nat) (hd : a.eval d = .slice (some ⟨g, off, none⟩) n c) (L : List Value) (t : TypeId) (hg : Blk w g t L.toArray) (hfit : off + n ≤ L.length)
    (h : ∀ w', Blk w' g t (splice L off ((List.replicate n 0).map U)).toArray → Kept (OneBlk g) w w' → wpList Tryd.prog ops Q rest (a.put o.dst (.tuple #[])) w') : wpList Tryd.prog ops Q (o :: rest) a w := by
  refine wpList_plain hgd fun K hK => ?_
  obtain ⟨w', hrun, h1, h2⟩ := run_clear_words w o.type g off n c L t hg hfit
  unfold Oper.wp
  simp [execOp, ho, resolve, invoke, builtin, hd, hrun, Result.andThen]
  exact hK _ _ (h w' h1 h2)

/-- copy, as it runs. -/
theorem run_copy_words (w : World) (ty : TypeId) (dp sp : Option Addr) (dLen dCap sLen sCap : Nat) (g off : Nat) (L : List Value) (t : TypeId) (hg : Blk w g t L.toArray) (xs : List Nat) (hsp : At w sp (xs.map U)) (hsl : sLen = xs.length) (k : Nat) (hk : k = min xs.length dLen)
    (hdp : 0 < k → dp = some ⟨g, off, none⟩) (hfit : off + k ≤ L.length) :
    ∃ w', (Builtin.copy_ #[132, 132] ty #[.slice dp dLen dCap, .slice sp sLen sCap]).run Tryd.prog w = .ok (.int .i64 (k : Int)) w' ∧ Blk w' g t (splice L off ((xs.take k).map U)).toArray ∧ Kept (OneBlk g) w w' := by
  subst hsl
  rcases Nat.eq_zero_or_pos k with h0 | h0
  · refine ⟨w, ?_, by rw [h0]; simpa [splice] using hg, Kept.refl _ _⟩
    rw [run_copy_none w _ _ ty 68 dp sp dLen dCap _ sCap Tryd.underlying132 infoSizeW (by show min _ _ = 0; omega), h0]
    rfl
  · obtain ⟨b, o2, rfl, hb, hc⟩ := At.at_ hsp (k := 0) (by simp; omega)
    obtain rfl := hdp h0
    have hl : ((xs.take k).map U).length = k := by rw [List.length_map]; exact length_take_min xs k dLen hk
    have hr := run_copy_row (P := Tryd.prog) w 132 132 ty 68 g off dLen dCap ⟨b, o2, none⟩ xs.length sCap L.toArray t ((xs.take k).map U) Tryd.underlying132 infoSizeW hg (by rw [hl]; exact hk)
      (by
        intro j v hv
        have e : (⟨b, o2, none⟩ : Addr).add j = ⟨b, o2 + j, none⟩ := by
          unfold Addr.add
          by_cases hj : j = 0 <;> simp [hj]
        rw [e]
        refine hc j v ?_
        rw [List.getElem?_map] at hv ⊢
        rw [List.getElem?_take] at hv
        split at hv
        · exact hv
        · cases hv)
      (by rw [hl]; simpa using hfit) (oneCell_words _)
    refine ⟨_, hr.trans (by rw [hl]; rfl), ?_, setRow_kept _ _ _⟩
    have hs' := setRow_heap w g L.toArray (splice L off ((xs.take k).map U)).toArray t (0, 0) hg
    have hmin : min k xs.length = k := by omega
    simpa [splice, hmin, Blk] using hs'

end Go.Proofs.YtmheoenieaemmaaDoor
