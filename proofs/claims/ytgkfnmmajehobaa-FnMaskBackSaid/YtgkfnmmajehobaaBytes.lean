/-
  Bytes: append onto a row of the call's own, string(bytes); impl.copied, laws.same.
-/
import Derived.Test.YtgkfnmmajehobaaProg
import Derived.Test.YtgkfnmmajehobaaMem
import Derived.KernelRfl
import Derived.Maps.AppendAt
import Derived.Deep.AppendLies
namespace Go.Proofs.Ytgkfnmmajehobaa
open Go.RowKit

section
variable {P : Program} (w : World)
theorem run_append_none (base : Nat) (t ty e : TypeId) (i : TypeInfo) (size : Nat) (ht : P.underlying t = some (.slice e)) (hi : P.info? e = some i)
    (v : Value) (n : Nat) (xs : List Value) (hown : w.ownsRow base e size v n xs) (c : Nat) : (Builtin.append_ #[t, t] ty #[v, .slice none 0 c]).run P w = .ok v w := by
  rcases hown.2 with ⟨rfl, rfl⟩ | ⟨g, cap, cur, rfl, _, _, hnc, _⟩
  · simp [Builtin.append_, run_underlying ht, sizeOf, typeInfo, hi, Builtin.lenOf, Builtin.firstCells]
  · simp [Builtin.append_, run_underlying ht, sizeOf, typeInfo, hi, Builtin.lenOf, Builtin.firstCells, hnc, storeCells]

theorem run_append_at (base : Nat) (t ty e : TypeId) (i : TypeInfo) (z : Value) (bytes : Nat) (ht : P.underlying t = some (.slice e)) (hi : P.info? e = some i) (hz : i.zero = some z)
    (hsize : i.size = 1) (hby : i.bytes = bytes) (hzs : z.cells.size = 1)
    (v : Value) (xs : List Value) (hown : w.ownsRow base e 1 v xs.length xs)
    (A : Option Addr) (c : Nat) (news : List Value) (hr : At w A news) (h1 : ∀ u ∈ news, u.oneCell' = true)
    (h63 : xs.length + news.length ≤ maxLen) (hbytes : (xs.length + news.length) * bytes ≤ 140737488355328) (hbase : base ≤ w.heap.size) :
    ∃ v' w', (Builtin.append_ #[t, t] ty #[v, .slice A news.length c]).run P w = .ok v' w' ∧ w'.ownsRow base e 1 v' (xs ++ news).length (xs ++ news) ∧ w.grownBy w' v.ownBlock ∧
      (v' = .slice none 0 0 ↔ v = .slice none 0 0 ∧ news = []) := by
  rcases A with _ | ad
  · have hn : news = [] := by
      rcases hr with h | ⟨b, off, h, _⟩
      · exact h
      · cases h
    subst hn
    exact ⟨v, w, run_append_none w base t ty e i 1 ht hi v _ xs hown c, by simpa using hown, ⟨rfl, rfl, rfl, Nat.le_refl _, fun _ _ _ => rfl⟩, by simp⟩
  · have hcells : ∀ (j : Nat) (u : Value), news[j]? = some u → w.cell? (ad.add j) = some u := by
      intro j u hu
      rcases hr with rfl | ⟨b, off, h, _, hc⟩
      · simp at hu
      · cases h
        have e : (⟨b, off, none⟩ : Addr).add j = ⟨b, off + j, none⟩ := by
          unfold Addr.add
          by_cases hj : j = 0 <;> simp [hj]
        rw [e]; exact hc j u hu
    obtain ⟨v', w', hr', h2, h3, h4⟩ := run_append_own (P := P) w base t ty e i z 1 bytes ht hi hz hsize hby hzs (by decide) v xs.length xs hown ad news.length c news (by simp) hcells h1 h63 hbytes hbase
    refine ⟨v', w', hr', by rw [List.length_append]; exact h2, h3, ?_⟩
    rw [h4]; simp

theorem wpList_append_at {ops : Array Oper} {rest : List Oper} {o : Oper} {a : Act} {Q : Exit → Act → World → Prop} (hgd : o.guard = none) (s x : Operand) (t : TypeId)
    (ho : o.op = .call { callee := .builtin .append, args := #[s, x], argTypes := #[t, t] })
    (base : Nat) (e : TypeId) (i : TypeInfo) (z : Value) (bytes : Nat) (ht : P.underlying t = some (.slice e)) (hi : P.info? e = some i) (hz : i.zero = some z)
    (hsize : i.size = 1) (hby : i.bytes = bytes) (hzs : z.cells.size = 1)
    (v : Value) (xs : List Value) (hs : a.eval s = v) (hown : w.ownsRow base e 1 v xs.length xs)
    (A : Option Addr) (c m : Nat) (news : List Value) (hx : a.eval x = .slice A m c) (hm : m = news.length) (hr : At w A news) (h1 : ∀ u ∈ news, u.oneCell' = true)
    (h63 : xs.length + news.length ≤ maxLen) (hbytes : (xs.length + news.length) * bytes ≤ 140737488355328) (hbase : base ≤ w.heap.size)
    (h : ∀ v' w', w'.ownsRow base e 1 v' (xs ++ news).length (xs ++ news) → w.grownBy w' v.ownBlock → (v' = .slice none 0 0 ↔ v = .slice none 0 0 ∧ news = []) → wpList P ops Q rest (a.put o.dst v') w') : wpList P ops Q (o :: rest) a w := by
  subst hm
  refine wpList_plain hgd fun K hK => ?_
  obtain ⟨v', w', hr', h2, h3, h4⟩ := run_append_at (P := P) w base t o.type e i z bytes ht hi hz hsize hby hzs v xs hown A c news hr h1 h63 hbytes hbase
  unfold Oper.wp execOp
  simp only [ho, resolve, invoke, builtin, Sem.run_bind, Sem.run_pure, Result.andThen_ok, List.map_toArray, List.map_cons, List.map_nil, hs, hx, hr']
  exact hK _ _ (h v' w' h2 h3 h4)
end

theorem infoByte : (Try.prog.info? 5).map (fun i => (i.zero, i.size, i.bytes)) = some (some (.int .u8 0), 1, 1) := by kernel_rfl

theorem oneCell_bytes (xs : List UInt8) : ∀ u ∈ xs.map B, u.oneCell' = true := by
  intro u hu
  obtain ⟨x, _, rfl⟩ := List.mem_map.1 hu
  rfl

/-- append onto a row of bytes of the call's own. -/
theorem wpList_append_bytes {ops : Array Oper} {rest : List Oper} {o : Oper} {a : Act} {Q : Exit → Act → World → Prop} (w : World) (hgd : o.guard = none) (s x : Operand)
    (ho : o.op = .call { callee := .builtin .append, args := #[s, x], argTypes := #[24, 24] })
    (N : Nat) (v : Value) (xs : List UInt8) (hs : a.eval s = v) (hown : w.ownsRow N 5 1 v xs.length (xs.map B))
    (A : Option Addr) (c m : Nat) (ys : List UInt8) (hx : a.eval x = .slice A m c) (hm : m = ys.length) (hr : BytesAt w A ys)
    (hlen : xs.length + ys.length ≤ 140737488355328) (hN : N ≤ w.heap.size)
    (h : ∀ v' w', w'.ownsRow N 5 1 v' (xs ++ ys).length ((xs ++ ys).map B) → w.grownBy w' v.ownBlock → wpList Try.prog ops Q rest (a.put o.dst v') w') : wpList Try.prog ops Q (o :: rest) a w := by
  obtain ⟨i, hi, hz0, hz1, hz2⟩ := info_parts infoByte
  refine wpList_append_at w hgd s x 24 ho N 5 i (.int .u8 0) 1 Try.underlying24 hi hz0 hz1 hz2 rfl v (xs.map B) hs (by simpa using hown) A c m (ys.map B) hx (by simpa using hm) hr
    (oneCell_bytes ys) (by simp only [List.length_map]; unfold maxLen; omega) (by simp only [List.length_map]; omega) hN ?_
  intro v' w' h2 h3 _
  refine h v' w' ?_ h3
  rw [← List.map_append] at h2
  simpa using h2

/-- The same, the new slice told by its parts. -/
theorem wpList_append_slice {ops : Array Oper} {rest : List Oper} {o : Oper} {a : Act} {Q : Exit → Act → World → Prop} (w : World) (hgd : o.guard = none) (s x : Operand)
    (ho : o.op = .call { callee := .builtin .append, args := #[s, x], argTypes := #[24, 24] })
    (N : Nat) (v : Value) (xs : List UInt8) (hs : a.eval s = v) (hown : w.ownsRow N 5 1 v xs.length (xs.map B))
    (A : Option Addr) (c m : Nat) (ys : List UInt8) (hx : a.eval x = .slice A m c) (hm : m = ys.length) (hr : BytesAt w A ys) (n : Nat) (hn : n = xs.length + ys.length)
    (hlen : xs.length + ys.length ≤ 140737488355328) (hN : N ≤ w.heap.size)
    (h : ∀ A' c' w', w'.ownsRow N 5 1 (.slice A' n c') (xs ++ ys).length ((xs ++ ys).map B) → w.grownBy w' v.ownBlock → wpList Try.prog ops Q rest (a.put o.dst (.slice A' n c')) w') : wpList Try.prog ops Q (o :: rest) a w := by
  subst hn
  refine wpList_append_bytes w hgd s x ho N v xs hs hown A c m ys hx hm hr hlen hN ?_
  intro v' w' h2 h3
  obtain ⟨A', c', rfl, _⟩ := own_form h2
  rw [List.length_append] at h2 ⊢
  exact h A' c' w' (by rw [List.length_append]; exact h2) h3

/-- string(b). -/
theorem conv_bytes (w : World) (A : Option Addr) (c : Nat) (xs : List UInt8) (h : BytesAt w A xs) :
    (convert 24 9 (.slice A xs.length c)).run Try.prog w = .ok (.string ⟨xs.toArray⟩) w := by
  rcases A with _ | ad
  · have hx : xs = [] := by
      rcases h with h | ⟨b, off, h, _⟩
      · simpa using h
      · cases h
    subst hx
    exact run_convert_bytes_nil w 24 5 Try.underlying24 Try.underlying5 _ _ _ Try.underlying9
  · refine run_convert_bytes_back w 24 9 5 ad c xs Try.underlying24 Try.underlying5 Try.underlying9 ?_
    intro j hj
    obtain ⟨b, off, e, _, hc⟩ := h.at_ hj
    cases e
    have e : (⟨b, off, none⟩ : Addr).add j = ⟨b, off + j, none⟩ := by
      unfold Addr.add
      by_cases hj : j = 0 <;> simp [hj]
    rw [e]
    exact hc j _ (List.getElem?_eq_getElem hj)

/-- What a copy of bytes is: a row of the call's own. -/
def GivesBytes (N : Nat) (xs : List UInt8) (w : World) (e : Ending) (w' : World) : Prop :=
  ∃ v, e = .returned v ∧ w'.ownsRow N 5 1 v xs.length (xs.map B) ∧ Kept NoBlk w w'

theorem copied_any (w : World) (A : Option Addr) (c : Nat) (xs : List UInt8) (h : BytesAt w A xs) (hl : xs.length ≤ 140737488355328) :
    Calls Try.prog 8 #[.slice A xs.length c] w (GivesBytes w.heap.size xs w) := by
  go_enter Try.func8, Try.ntmps8
  go_wp2_with (at_builtin; refine wpList_append_bytes _ rfl _ _ rfl w.heap.size (.slice none 0 0) [] rfl (World.ownsRow_nil _ _ _ _) A c _ xs rfl rfl h (by simp; omega) (Nat.le_refl _) ?_; intro v' w1 hown hgrow)
  go_ret
  exact ⟨v', rfl, by simpa using hown, Kept.of_grown hgrow (fun g hg => by cases hg)⟩

/-- laws.same tells whether bytes are the same. -/
theorem same_any (w : World) (A A' : Option Addr) (c c' : Nat) (xs ys : List UInt8) (hx : BytesAt w A xs) (hy : BytesAt w A' ys) :
    Calls Try.prog 6 #[.slice A xs.length c, .slice A' ys.length c'] w fun e w' => e = .returned (.bool (xs == ys)) ∧ w = w' := by
  have h1 := conv_bytes w A c xs hx
  have h2 := conv_bytes w A' c' ys hy
  go_enter Try.func6, Try.ntmps6
  go_wp2
  go_ret
  exact ⟨rfl, rfl⟩

end Go.Proofs.Ytgkfnmmajehobaa
