/-
  Words for memory: a block known whole (Blk), 'but for the blocks of S nothing that was there has turned' (Kept), bytes that lie behind a slice's address (BytesAt).
-/
import Derived.WalkKit
import Derived.Deep.Draws
import Derived.Lib.Hide
namespace Go.Proofs.Ytgkfnmmajehobaa
open Go.RowKit

/-- Block g is just the cells cs of element type t, none frozen. -/
def Blk (w : World) (g : Nat) (t : TypeId) (cs : Array Value) : Prop := w.heap[g]? = some (.cells cs t (0, 0))

/-- But for the blocks of S, nothing that was there has turned. -/
structure Kept (S : Nat → Prop) (w w' : World) : Prop where
  os : w'.os = w.os
  tape : w'.tape = w.tape
  output : w'.output = w.output
  size : w.heap.size ≤ w'.heap.size
  block : ∀ k, k < w.heap.size → ¬ S k → w'.heap[k]? = w.heap[k]?

def NoBlk : Nat → Prop := fun _ => False
def OneBlk (g : Nat) : Nat → Prop := fun k => k = g

section
variable {w w' w'' : World} {S S' : Nat → Prop} {g : Nat} {t : TypeId} {cs : Array Value}

theorem Kept.refl (S : Nat → Prop) (w : World) : Kept S w w := ⟨rfl, rfl, rfl, Nat.le_refl _, fun _ _ _ => rfl⟩
theorem Kept.trans (h : Kept S w w') (k : Kept S w' w'') : Kept S w w'' :=
  ⟨k.os.trans h.os, k.tape.trans h.tape, k.output.trans h.output, Nat.le_trans h.size k.size, fun i hi hs => (k.block i (Nat.lt_of_lt_of_le hi h.size) hs).trans (h.block i hi hs)⟩
/-- A step behind it may write what is new, and what S names. -/
theorem Kept.step (h : Kept S w w') (k : Kept S' w' w'') (hs : ∀ i, i < w.heap.size → S' i → S i) : Kept S w w'' :=
  ⟨k.os.trans h.os, k.tape.trans h.tape, k.output.trans h.output, Nat.le_trans h.size k.size,
    fun i hi hn => (k.block i (Nat.lt_of_lt_of_le hi h.size) (fun e => hn (hs i hi e))).trans (h.block i hi hn)⟩
theorem Kept.mono (h : Kept S w w') (hs : ∀ i, i < w.heap.size → S i → S' i) : Kept S' w w' :=
  ⟨h.os, h.tape, h.output, h.size, fun i hi hn => h.block i hi (fun e => hn (hs i hi e))⟩
theorem Kept.drew (h : Kept S w w') : Kept S w w'.drew := ⟨h.os, h.tape, h.output, h.size, h.block⟩
theorem Kept.drewN (h : Kept S w w') (n : Nat) : Kept S w (w'.drewN n) := ⟨h.os, h.tape, h.output, h.size, h.block⟩
theorem Kept.alloc (h : Kept S w w') (o : Obj) : Kept S w (w'.alloc o) :=
  ⟨h.os, h.tape, h.output, by have := h.size; simp; omega, fun k hk hs => (Below.heap_alloc w' o k (Nat.lt_of_lt_of_le hk h.size)).trans (h.block k hk hs)⟩
theorem Kept.setCell (h : Kept S w w') (p : Addr) (u : Value) (hp : p.block < w.heap.size → S p.block) : Kept S w (w'.setCell p u) :=
  ⟨h.os, h.tape, h.output, by have := h.size; simp [World.setCell]; omega,
    fun k hk hs => (Below.heap_setCell w' p u k (fun e => hs (e ▸ hp (e ▸ hk)))).trans (h.block k hk hs)⟩
theorem Kept.setOne (h : Kept (OneBlk g) w w') (i : Nat) (u : Value) : Kept (OneBlk g) w (w'.setCell ⟨g, i, none⟩ u) := h.setCell _ _ (fun _ => rfl)
theorem Kept.of_grown {row : Option Nat} (hg : w.grownBy w' row) (hs : ∀ g, row = some g → S g) : Kept S w w' :=
  ⟨hg.os, hg.tape, hg.output, hg.size, fun k hk hn => hg.block k hk (fun e => hn (hs k e.symm))⟩
theorem Kept.of_below (h : Below w.heap.size w w') : Kept S w w' := ⟨h.os, h.tape, h.output, h.size, fun k hk _ => h.block k hk⟩
theorem Kept.below (h : Kept NoBlk w w') : Below w.heap.size w w' := ⟨h.os, h.tape, h.output, h.size, fun k hk => h.block k hk (fun e => e)⟩
theorem Kept.belowOf {B : Nat} (h : Kept S w w') (hB : B ≤ w.heap.size) (hs : ∀ k, k < B → ¬ S k) : Below B w w' :=
  ⟨h.os, h.tape, h.output, h.size, fun k hk => h.block k (Nat.lt_of_lt_of_le hk hB) (hs k hk)⟩
theorem Kept.cell (h : Kept S w w') {p : Addr} (hp : p.block < w.heap.size) (hs : ¬ S p.block) : w'.cell? p = w.cell? p := World.cell?_of_block (w := w) (h.block p.block hp hs)
theorem Kept.frozen (h : Kept S w w') {p : Addr} (hp : p.block < w.heap.size) (hs : ¬ S p.block) : w'.frozen? p = w.frozen? p := World.frozen?_of_block (w := w) (h.block p.block hp hs)

/-- What is written lies in new blocks. -/
theorem Kept.setNew (h : Kept S w w') {b : Nat} (hb : w.heap.size ≤ b) (i : Nat) (u : Value) : Kept S w (w'.setCell ⟨b, i, none⟩ u) :=
  h.setCell _ _ (fun hlt => absurd hlt (Nat.not_lt.mpr hb))
theorem Kept.fresh (h : Kept S w w') (k : Kept (OneBlk g) w' w'') (hg : w.heap.size ≤ g) : Kept S w w'' :=
  h.step k (fun i hi e => by unfold OneBlk at e; omega)
theorem Kept.none (h : Kept S w w') (k : Kept NoBlk w' w'') : Kept S w w'' := h.step k (fun _ _ e => e.elim)

theorem Blk.lt (h : Blk w g t cs) : g < w.heap.size := by
  rcases Nat.lt_or_ge g w.heap.size with hlt | hge
  · exact hlt
  · unfold Blk at h; rw [Array.getElem?_eq_none hge] at h; cases h
theorem Blk.cell (h : Blk w g t cs) (i : Nat) : w.cell? ⟨g, i, none⟩ = cs[i]? := cell_of_row w g i cs t (0, 0) h
theorem Blk.cellIs (h : Blk w g t cs) {i : Nat} {v : Value} (hv : cs[i]? = some v) : w.cell? ⟨g, i, none⟩ = some v := (h.cell i).trans hv
theorem Blk.frozen (h : Blk w g t cs) (i : Nat) : w.frozen? ⟨g, i, none⟩ = false := by
  unfold Blk at h
  simp [World.frozen?, h]
theorem Blk.new (w : World) (t : TypeId) (cs : Array Value) : Blk (w.alloc (.cells cs t)) w.heap.size t cs := heap_alloc_new w _
theorem Blk.drew (h : Blk w g t cs) : Blk w.drew g t cs := h
theorem Blk.drewN (h : Blk w g t cs) (n : Nat) : Blk (w.drewN n) g t cs := h
theorem Blk.alloc (h : Blk w g t cs) (o : Obj) : Blk (w.alloc o) g t cs := (Below.heap_alloc w o g h.lt).trans h
theorem Blk.set_ (h : Blk w g t cs) (i : Nat) (u : Value) : Blk (w.setCell ⟨g, i, none⟩ u) g t (cs.setIfInBounds i u) := by
  unfold Blk at h ⊢
  simp [World.setCell, Array.getElem?_modify, h]
theorem Blk.far (h : Blk w g t cs) {p : Addr} (hp : g ≠ p.block) (u : Value) : Blk (w.setCell p u) g t cs := (Below.heap_setCell w p u g hp).trans h
theorem Blk.kept (h : Blk w g t cs) (hk : Kept S w w') (hs : ¬ S g) : Blk w' g t cs := (hk.block g h.lt hs).trans h
theorem Blk.same {t' : TypeId} {cs' : Array Value} (h : Blk w g t cs) (h' : Blk w g t' cs') : t = t' ∧ cs = cs' := by
  unfold Blk at h h'
  rw [h] at h'
  injection h' with h'
  injection h' with h1 h2
  exact ⟨h2, h1⟩
theorem Blk.ne_ {g' : Nat} {t' : TypeId} {cs' : Array Value} (h : Blk w g t cs) (h' : Blk w g' t' cs') (hne : t ≠ t') : g ≠ g' := by
  rintro rfl
  exact hne (h.same h').1
end

/-- A byte as a value. -/
def B (x : UInt8) : Value := .int .u8 (x.toNat : Int)

/-- The values vs lie behind the address A, a cell each. -/
def At (w : World) (A : Option Addr) (vs : List Value) : Prop :=
  vs = [] ∨ ∃ b off, A = some ⟨b, off, none⟩ ∧ b < w.heap.size ∧ ∀ (j : Nat) (u : Value), vs[j]? = some u → w.cell? ⟨b, off + j, none⟩ = some u

/-- The bytes xs lie behind the address A. -/
def BytesAt (w : World) (A : Option Addr) (xs : List UInt8) : Prop := At w A (xs.map B)

section
variable {w w' : World} {A : Option Addr} {xs : List UInt8} {vs : List Value} {S : Nat → Prop}
theorem At.nil (w : World) (A : Option Addr) : At w A [] := .inl rfl
theorem At.at_ (h : At w A vs) {k : Nat} (hk : k < vs.length) :
    ∃ b off, A = some ⟨b, off, none⟩ ∧ b < w.heap.size ∧ ∀ (j : Nat) (u : Value), vs[j]? = some u → w.cell? ⟨b, off + j, none⟩ = some u := by
  rcases h with rfl | h
  · simp at hk
  · exact h
theorem At.kept (h : At w A vs) (k : Kept S w w') (hs : ∀ a, A = some a → ¬ S a.block) : At w' A vs := by
  rcases h with rfl | ⟨b, off, rfl, hb, hcell⟩
  · exact .inl rfl
  · exact .inr ⟨b, off, rfl, Nat.lt_of_lt_of_le hb k.size, fun j u hu => (k.cell (p := ⟨b, off + j, none⟩) hb (show ¬ S b from hs ⟨b, off, none⟩ rfl)).trans (hcell j u hu)⟩
theorem At.still (h : At w A vs) (k : Kept NoBlk w w') : At w' A vs := h.kept k (fun _ _ e => e)
theorem At.alloc (h : At w A vs) (o : Obj) : At (w.alloc o) A vs := h.still ((Kept.refl _ w).alloc o)
theorem At.drop (h : At w A vs) (n : Nat) (hn : n ≤ vs.length) : At w (A.map fun a => { a with off := a.off + n }) (vs.drop n) := by
  rcases h with rfl | ⟨b, off, rfl, hb, hcell⟩
  · simp at hn; subst hn; exact .inl rfl
  · refine .inr ⟨b, off + n, rfl, hb, fun j u hu => ?_⟩
    rw [Nat.add_assoc]
    exact hcell _ u (by rw [← hu, List.getElem?_drop])
theorem At.take (h : At w A vs) (n : Nat) : At w A (vs.take n) := by
  rcases h with rfl | ⟨b, off, rfl, hb, hcell⟩
  · left; simp
  · refine .inr ⟨b, off, rfl, hb, fun j u hu => hcell j u ?_⟩
    rw [List.getElem?_take] at hu
    split at hu
    · exact hu
    · cases hu
theorem Blk.at_ {g : Nat} {t : TypeId} {cs : Array Value} (h : Blk w g t cs) (vs : List Value) (hv : ∀ (j : Nat) (u : Value), vs[j]? = some u → cs[j]? = some u) : At w (some ⟨g, 0, none⟩) vs :=
  .inr ⟨g, 0, rfl, h.lt, fun j u hu => by rw [Nat.zero_add]; exact h.cellIs (hv j u hu)⟩
theorem at_new (w : World) (t : TypeId) (vs : List Value) : At (w.alloc (.cells vs.toArray t)) (some ⟨w.heap.size, 0, none⟩) vs :=
  (Blk.new w t vs.toArray).at_ vs (fun j u hu => by simpa using hu)
theorem at_new' (w : World) (t : TypeId) (vs : List Value) (n : Nat) (hn : n = w.heap.size) : At (w.alloc (.cells vs.toArray t)) (some ⟨n, 0, none⟩) vs := hn ▸ at_new w t vs
theorem bytesAt_new (w : World) (t : TypeId) (xs : List UInt8) (n : Nat) (hn : n = w.heap.size) : BytesAt (w.alloc (.cells (xs.map B).toArray t)) (some ⟨n, 0, none⟩) xs := at_new' w t (xs.map B) n hn
theorem BytesAt.nil (w : World) (A : Option Addr) : BytesAt w A [] := .inl rfl
theorem BytesAt.at_ (h : BytesAt w A xs) {k : Nat} (hk : k < xs.length) :
    ∃ b off, A = some ⟨b, off, none⟩ ∧ b < w.heap.size ∧ ∀ (j : Nat) (u : UInt8), xs[j]? = some u → w.cell? ⟨b, off + j, none⟩ = some (B u) := by
  obtain ⟨b, off, e, hb, hc⟩ := At.at_ h (k := k) (by simpa using hk)
  exact ⟨b, off, e, hb, fun j u hu => hc j _ (by rw [List.getElem?_map, hu]; rfl)⟩
theorem BytesAt.still (h : BytesAt w A xs) (k : Kept NoBlk w w') : BytesAt w' A xs := At.still h k
theorem BytesAt.kept (h : BytesAt w A xs) (k : Kept S w w') (hs : ∀ a, A = some a → ¬ S a.block) : BytesAt w' A xs := At.kept h k hs
theorem BytesAt.alloc (h : BytesAt w A xs) (o : Obj) : BytesAt (w.alloc o) A xs := At.alloc h o
theorem BytesAt.mk {b off : Nat} (hb : b < w.heap.size) (hc : ∀ (j : Nat) (u : UInt8), xs[j]? = some u → w.cell? ⟨b, off + j, none⟩ = some (B u)) : BytesAt w (some ⟨b, off, none⟩) xs := by
  refine .inr ⟨b, off, rfl, hb, fun j u hu => ?_⟩
  rw [List.getElem?_map] at hu
  cases h : xs[j]? with
  | none => rw [h] at hu; cases hu
  | some x => rw [h] at hu; simp only [Option.map_some, Option.some.injEq] at hu; rw [hc j x h, hu]
end

section
variable {w w' : World} {N : Nat} {e : TypeId} {v : Value} {n : Nat} {vs : List Value} {S : Nat → Prop}
/-- A row of one-cell elements that the call owns: its form. -/
theorem own_form (h : w.ownsRow N e 1 v n vs) : ∃ A c, v = .slice A n c ∧ n ≤ c ∧ c ≤ maxLen ∧ At w A vs ∧ (0 < n → ∃ g, A = some ⟨g, 0, none⟩ ∧ N ≤ g ∧ g < w.heap.size) := by
  obtain ⟨hl, hn | ⟨g, cap, cur, rfl, hb, hg, hnc, hcm, hcs, ht⟩⟩ := h
  · obtain ⟨rfl, rfl⟩ := hn
    have hv : vs = [] := List.eq_nil_of_length_eq_zero (by simpa using hl)
    subst hv
    exact ⟨none, 0, rfl, Nat.le_refl _, Nat.zero_le _, .inl rfl, fun h => absurd h (by omega)⟩
  · have hB : Blk w g e cur := hg
    refine ⟨some ⟨g, 0, none⟩, cap, rfl, hnc, hcm, hB.at_ vs ?_, fun _ => ⟨g, rfl, hb, hB.lt⟩⟩
    intro j u hu
    have h2 : (cur.toList.take (n * 1))[j]? = some u := by rw [ht]; exact hu
    rw [List.getElem?_take] at h2
    split at h2
    · simpa using h2
    · cases h2
theorem own_lt {A : Option Addr} {c : Nat} (h : w.ownsRow N e 1 (.slice A n c) n vs) : ∀ a, A = some a → N ≤ a.block ∧ a.block < w.heap.size := by
  rintro a rfl
  exact h.lt a.block rfl
theorem own_kept (h : w.ownsRow N e 1 v n vs) (k : Kept S w w') (hs : ∀ g, v.ownBlock = some g → ¬ S g) : w'.ownsRow N e 1 v n vs := by
  obtain ⟨hl, hn | ⟨g, cap, cur, rfl, hb, hg, r⟩⟩ := h
  · exact ⟨hl, .inl hn⟩
  · have hB : Blk w g e cur := hg
    exact ⟨hl, .inr ⟨g, cap, cur, rfl, hb, hB.kept k (hs g rfl), r⟩⟩
theorem own_still (h : w.ownsRow N e 1 v n vs) (k : Kept NoBlk w w') : w'.ownsRow N e 1 v n vs := own_kept h k (fun _ _ e => e)
/-- A step that may have grown a row of the call's own (numbers from N on). -/
theorem Kept.grow {w0 : World} (k : Kept S w0 w) (h : w.ownsRow N e 1 v n vs) (hN : w0.heap.size ≤ N) (hg : w.grownBy w' v.ownBlock) : Kept S w0 w' :=
  k.step (Kept.of_grown (S := fun g => v.ownBlock = some g) hg (fun _ e => e)) (fun i hi e => by have := h.lt i e; omega)
theorem own_base {N' : Nat} (h : w.ownsRow N e 1 v n vs) (hN : N' ≤ N) : w.ownsRow N' e 1 v n vs := by
  obtain ⟨hl, hn | ⟨g, cap, cur, rfl, hb, r⟩⟩ := h
  · exact ⟨hl, .inl hn⟩
  · exact ⟨hl, .inr ⟨g, cap, cur, rfl, Nat.le_trans hN hb, r⟩⟩
end

theorem byte_of {a : Int} (h0 : 0 ≤ a) (h1 : a ≤ 255) : ∃ x : UInt8, a = (x.toNat : Int) :=
  ⟨UInt8.ofNat a.toNat, by rw [UInt8.toNat_ofNat']; omega⟩

theorem byte_zero {x : UInt8} : (x.toNat : Int) = 0 ↔ x = 0 := by
  constructor
  · intro h
    apply UInt8.toNat_inj.1
    show x.toNat = 0
    omega
  · rintro rfl; rfl

/-- What a law is told of a slice of integers that came in: it is nil; or it leads to a row of 'cap' cells, the numbers 'zs' (the first 'len' are its elements, the rest its spare room), each fitting its kind. -/
def IsRow (k : IntKind) (w : World) (a : Option Addr) (len cap : Nat) (zs : List Int) : Prop :=
  (a = none ∧ len = 0 ∧ cap = 0 ∧ zs = []) ∨
  ∃ x, a = some x ∧ len ≤ cap ∧ cap ≤ maxLen ∧ zs.length = cap ∧ (∀ i, i < zs.length → w.cell? (x.add i) = some (.int k (zs.getD i 0))) ∧ ∀ n ∈ zs, (Lit.int k n).wf = true

theorem IsRow.bytes {w : World} {a : Option Addr} {len cap : Nat} {zs : List Int} (h : IsRow .u8 w a len cap zs) :
    ∃ xs : List UInt8, xs.length = len ∧ BytesAt w a xs ∧ len ≤ cap ∧ cap ≤ maxLen := by
  rcases h with ⟨rfl, rfl, rfl, rfl⟩ | ⟨x, rfl, hl, hm, hz, hc, hw⟩
  · exact ⟨[], rfl, .inl rfl, Nat.le_refl _, Nat.zero_le _⟩
  · refine ⟨(zs.take len).map fun z => UInt8.ofNat z.toNat, by simp; omega, ?_, hl, hm⟩
    rcases Nat.eq_zero_or_pos len with h0 | h0
    · left; simp [h0]
    · right
      have c0 := hc 0 (by omega)
      have hs : x.spot = none := by
        have := World.cell?_spot c0
        simpa [Addr.add] using this
      refine ⟨x.block, x.off, by cases x; simp_all, ?_, ?_⟩
      · have := World.block_lt_of_cell? _ _ c0
        simpa [Addr.add] using this
      · intro j u hu
        simp only [List.getElem?_map, List.getElem?_take] at hu
        split at hu
        case isFalse => simp at hu
        rename_i hj
        have hjz : j < zs.length := by omega
        rw [List.getElem?_eq_getElem hjz] at hu
        simp only [Option.map_some, Option.some.injEq] at hu
        subst hu
        have cj := hc j hjz
        have e : x.add j = ⟨x.block, x.off + j, none⟩ := by
          unfold Addr.add
          cases x
          simp only at hs
          subst hs
          by_cases hj0 : j = 0 <;> simp [hj0]
        rw [e] at cj
        rw [cj]
        have hwf := hw zs[j] (List.getElem_mem hjz)
        have hb : 0 ≤ zs[j] ∧ zs[j] ≤ 255 := by
          simp [Lit.wf, IntKind.min, IntKind.max, IntKind.signed, IntKind.bits] at hwf
          omega
        unfold B
        rw [List.getD_eq_getElem?_getD, List.getElem?_eq_getElem hjz]
        simp only [Option.getD_some]
        congr 2
        have : (UInt8.ofNat zs[j].toNat).toNat = zs[j].toNat := by
          rw [UInt8.toNat_ofNat']; omega
        rw [this]; omega

end Go.Proofs.Ytgkfnmmajehobaa
