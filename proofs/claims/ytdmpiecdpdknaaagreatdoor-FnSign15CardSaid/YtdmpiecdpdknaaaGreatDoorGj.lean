/-
  Words for memory: a block known whole (Blk), 'but for the blocks of S nothing that was there has turned' (Kept), bytes that lie behind a slice's address (BytesAt).
  Bytes: append onto a row of the call's own, string(bytes); impl.copied, laws.same.
  copy onto a block of bytes that is known whole.
-/
import Derived.WalkKit
import Derived.Deep.Draws
import Derived.Lib.Hide
import Derived.Test.YtdmpiecdpdknaaaGreatDoorProg
import Derived.KernelRfl
import Derived.Maps.AppendAt
import Derived.Deep.AppendLies
import Derived.Laws.CopyOwn
namespace Go.Proofs.YtdmpiecdpdknaaaGreatDoor
open Go.RowKit

/-- Block g is just the cells cs of element type t, none frozen. -/
def Blk (w : World) (g : Nat) (t : TypeId) (cs : Array Value) : Prop := w.heap[g]? = some (.cells cs t (0, 0))

/-- But for the blocks of S, nothing that was there has turned. -/
structure Kept (S : Nat → Prop) (w w' : World) : Prop where
  os : w'.os = w.os
  tape : w'.tape = w.tape
  output : w'.output = w.output
  size : w.heap.size ≤ w'.heap.size
  block : ∀ k, k < w.heap.size → ¬ S k → w'.heap[k]? = w.heap[k]?

def NoBlk : Nat → Prop := fun _ => False
def OneBlk (g : Nat) : Nat → Prop := fun k => k = g

section
variable {w w' w'' : World} {S S' : Nat → Prop} {g : Nat} {t : TypeId} {cs : Array Value}

theorem Kept.refl (S : Nat → Prop) (w : World) : Kept S w w := ⟨rfl, rfl, rfl, Nat.le_refl _, fun _ _ _ => rfl⟩
theorem Kept.trans (h : Kept S w w') (k : Kept S w' w'') : Kept S w w'' :=
  ⟨k.os.trans h.os, k.tape.trans h.tape, k.output.trans h.output, Nat.le_trans h.size k.size, fun i hi hs => (k.block i (Nat.lt_of_lt_of_le hi h.size) hs).trans (h.block i hi hs)⟩
/-- A step behind it may write what is new, and what S names. -/
theorem Kept.step (h : Kept S w w') (k : Kept S' w' w'') (hs : ∀ i, i < w.heap.size → S' i → S i) : Kept S w w'' :=
  ⟨k.os.trans h.os, k.tape.trans h.tape, k.output.trans h.output, Nat.le_trans h.size k.size,
    fun i hi hn => (k.block i (Nat.lt_of_lt_of_le hi h.size) (fun e => hn (hs i hi e))).trans (h.block i hi hn)⟩
theorem Kept.mono (h : Kept S w w') (hs : ∀ i, i < w.heap.size → S i → S' i) : Kept S' w w' :=
  ⟨h.os, h.tape, h.output, h.size, fun i hi hn => h.block i hi (fun e => hn (hs i hi e))⟩
theorem Kept.drew (h : Kept S w w') : Kept S w w'.drew := ⟨h.os, h.tape, h.output, h.size, h.block⟩
theorem Kept.drewN (h : Kept S w w') (n : Nat) : Kept S w (w'.drewN n) := ⟨h.os, h.tape, h.output, h.size, h.block⟩
theorem Kept.alloc (h : Kept S w w') (o : Obj) : Kept S w (w'.alloc o) :=
  ⟨h.os, h.tape, h.output, by have := h.size; simp; omega, fun k hk hs => (Below.heap_alloc w' o k (Nat.lt_of_lt_of_le hk h.size)).trans (h.block k hk hs)⟩
theorem Kept.setCell (h : Kept S w w') (p : Addr) (u : Value) (hp : p.block < w.heap.size → S p.block) : Kept S w (w'.setCell p u) :=
  ⟨h.os, h.tape, h.output, by have := h.size; simp [World.setCell]; omega,
    fun k hk hs => (Below.heap_setCell w' p u k (fun e => hs (e ▸ hp (e ▸ hk)))).trans (h.block k hk hs)⟩
theorem Kept.setOne (h : Kept (OneBlk g) w w') (i : Nat) (u : Value) : Kept (OneBlk g) w (w'.setCell ⟨g, i, none⟩ u) := h.setCell _ _ (fun _ => rfl)
theorem Kept.of_grown {row : Option Nat} (hg : w.grownBy w' row) (hs : ∀ g, row = some g → S g) : Kept S w w' :=
  ⟨hg.os, hg.tape, hg.output, hg.size, fun k hk hn => hg.block k hk (fun e => hn (hs k e.symm))⟩
theorem Kept.of_below (h : Below w.heap.size w w') : Kept S w w' := ⟨h.os, h.tape, h.output, h.size, fun k hk _ => h.block k hk⟩
theorem Kept.below (h : Kept NoBlk w w') : Below w.heap.size w w' := ⟨h.os, h.tape, h.output, h.size, fun k hk => h.block k hk (fun e => e)⟩
theorem Kept.belowOf {B : Nat} (h : Kept S w w') (hB : B ≤ w.heap.size) (hs : ∀ k, k < B → ¬ S k) : Below B w w' :=
  ⟨h.os, h.tape, h.output, h.size, fun k hk => h.block k (Nat.lt_of_lt_of_le hk hB) (hs k hk)⟩
theorem Kept.cell (h : Kept S w w') {p : Addr} (hp : p.block < w.heap.size) (hs : ¬ S p.block) : w'.cell? p = w.cell? p := World.cell?_of_block (w := w) (h.block p.block hp hs)
theorem Kept.frozen (h : Kept S w w') {p : Addr} (hp : p.block < w.heap.size) (hs : ¬ S p.block) : w'.frozen? p = w.frozen? p := World.frozen?_of_block (w := w) (h.block p.block hp hs)

/-- What is written lies in new blocks. -/
theorem Kept.setNew (h : Kept S w w') {b : Nat} (hb : w.heap.size ≤ b) (i : Nat) (u : Value) : Kept S w (w'.setCell ⟨b, i, none⟩ u) :=
  h.setCell _ _ (fun hlt => absurd hlt (Nat.not_lt.mpr hb))
theorem Kept.fresh (h : Kept S w w') (k : Kept (OneBlk g) w' w'') (hg : w.heap.size ≤ g) : Kept S w w'' :=
  h.step k (fun i hi e => by unfold OneBlk at e; omega)
theorem Kept.none (h : Kept S w w') (k : Kept NoBlk w' w'') : Kept S w w'' := h.step k (fun _ _ e => e.elim)

theorem Blk.lt (h : Blk w g t cs) : g < w.heap.size := by
  rcases Nat.lt_or_ge g w.heap.size with hlt | hge
  · exact hlt
  · unfold Blk at h; rw [Array.getElem?_eq_none hge] at h; cases h
theorem Blk.cell (h : Blk w g t cs) (i : Nat) : w.cell? ⟨g, i, none⟩ = cs[i]? := cell_of_row w g i cs t (0, 0) h
theorem Blk.cellIs (h : Blk w g t cs) {i : Nat} {v : Value} (hv : cs[i]? = some v) : w.cell? ⟨g, i, none⟩ = some v := (h.cell i).trans hv
theorem Blk.frozen (h : Blk w g t cs) (i : Nat) : w.frozen? ⟨g, i, none⟩ = false := by
  unfold Blk at h
  simp [World.frozen?, h]
theorem Blk.new (w : World) (t : TypeId) (cs : Array Value) : Blk (w.alloc (.cells cs t)) w.heap.size t cs := heap_alloc_new w _
theorem Blk.drew (h : Blk w g t cs) : Blk w.drew g t cs := h
theorem Blk.drewN (h : Blk w g t cs) (n : Nat) : Blk (w.drewN n) g t cs := h
theorem Blk.alloc (h : Blk w g t cs) (o : Obj) : Blk (w.alloc o) g t cs := (Below.heap_alloc w o g h.lt).trans h
theorem Blk.set_ (h : Blk w g t cs) (i : Nat) (u : Value) : Blk (w.setCell ⟨g, i, none⟩ u) g t (cs.setIfInBounds i u) := by
  unfold Blk at h ⊢
  simp [World.setCell, Array.getElem?_modify, h]
theorem Blk.far (h : Blk w g t cs) {p : Addr} (hp : g ≠ p.block) (u : Value) : Blk (w.setCell p u) g t cs := (Below.heap_setCell w p u g hp).trans h
theorem Blk.kept (h : Blk w g t cs) (hk : Kept S w w') (hs : ¬ S g) : Blk w' g t cs := (hk.block g h.lt hs).trans h
theorem Blk.same {t' : TypeId} {cs' : Array Value} (h : Blk w g t cs) (h' : Blk w g t' cs') : t = t' ∧ cs = cs' := by
  unfold Blk at h h'
  rw [h] at h'
  injection h' with h'
  injection h' with h1 h2
  exact ⟨h2, h1⟩
theorem Blk.ne_ {g' : Nat} {t' : TypeId} {cs' : Array Value} (h : Blk w g t cs) (h' : Blk w g' t' cs') (hne : t ≠ t') : g ≠ g' := by
  rintro rfl
  exact hne (h.same h').1
end

/-- A byte as a value. -/
def B (x : UInt8) : Value := .int .u8 (x.toNat : Int)

/-- The values vs lie behind the address A, a cell each. -/
def At (w : World) (A : Option Addr) (vs : List Value) : Prop :=
  vs = [] ∨ ∃ b off, A = some ⟨b, off, none⟩ ∧ b < w.heap.size ∧ ∀ (j : Nat) (u : Value), vs[j]? = some u → w.cell? ⟨b, off + j, none⟩ = some u

/-- The bytes xs lie behind the address A. -/
def BytesAt (w : World) (A : Option Addr) (xs : List UInt8) : Prop := At w A (xs.map B)

section
variable {w w' : World} {A : Option Addr} {xs : List UInt8} {vs : List Value} {S : Nat → Prop}
theorem At.nil (w : World) (A : Option Addr) : At w A [] := .inl rfl
theorem At.at_ (h : At w A vs) {k : Nat} (hk : k < vs.length) :
    ∃ b off, A = some ⟨b, off, none⟩ ∧ b < w.heap.size ∧ ∀ (j : Nat) (u : Value), vs[j]? = some u → w.cell? ⟨b, off + j, none⟩ = some u := by
  rcases h with rfl | h
  · simp at hk
  · exact h
theorem At.kept (h : At w A vs) (k : Kept S w w') (hs : ∀ a, A = some a → ¬ S a.block) : At w' A vs := by
  rcases h with rfl | ⟨b, off, rfl, hb, hcell⟩
  · exact .inl rfl
  · exact .inr ⟨b, off, rfl, Nat.lt_of_lt_of_le hb k.size, fun j u hu => (k.cell (p := ⟨b, off + j, none⟩) hb (show ¬ S b from hs ⟨b, off, none⟩ rfl)).trans (hcell j u hu)⟩
theorem At.still (h : At w A vs) (k : Kept NoBlk w w') : At w' A vs := h.kept k (fun _ _ e => e)
theorem At.alloc (h : At w A vs) (o : Obj) : At (w.alloc o) A vs := h.still ((Kept.refl _ w).alloc o)
theorem At.drop (h : At w A vs) (n : Nat) (hn : n ≤ vs.length) : At w (A.map fun a => { a with off := a.off + n }) (vs.drop n) := by
  rcases h with rfl | ⟨b, off, rfl, hb, hcell⟩
  · simp at hn; subst hn; exact .inl rfl
  · refine .inr ⟨b, off + n, rfl, hb, fun j u hu => ?_⟩
    rw [Nat.add_assoc]
    exact hcell _ u (by rw [← hu, List.getElem?_drop])
theorem At.take (h : At w A vs) (n : Nat) : At w A (vs.take n) := by
  rcases h with rfl | ⟨b, off, rfl, hb, hcell⟩
  · left; simp
  · refine .inr ⟨b, off, rfl, hb, fun j u hu => hcell j u ?_⟩
    rw [List.getElem?_take] at hu
    split at hu
    · exact hu
    · cases hu
theorem Blk.at_ {g : Nat} {t : TypeId} {cs : Array Value} (h : Blk w g t cs) (vs : List Value) (hv : ∀ (j : Nat) (u : Value), vs[j]? = some u → cs[j]? = some u) : At w (some ⟨g, 0, none⟩) vs :=
  .inr ⟨g, 0, rfl, h.lt, fun j u hu => by rw [Nat.zero_add]; exact h.cellIs (hv j u hu)⟩
theorem at_new (w : World) (t : TypeId) (vs : List Value) : At (w.alloc (.cells vs.toArray t)) (some ⟨w.heap.size, 0, none⟩) vs :=
  (Blk.new w t vs.toArray).at_ vs (fun j u hu => by simpa using hu)
theorem at_new' (w : World) (t : TypeId) (vs : List Value) (n : Nat) (hn : n = w.heap.size) : At (w.alloc (.cells vs.toArray t)) (some ⟨n, 0, none⟩) vs := hn ▸ at_new w t vs
theorem bytesAt_new (w : World) (t : TypeId) (xs : List UInt8) (n : Nat) (hn : n = w.heap.size) : BytesAt (w.alloc (.cells (xs.map B).toArray t)) (some ⟨n, 0, none⟩) xs := at_new' w t (xs.map B) n hn
theorem BytesAt.nil (w : World) (A : Option Addr) : BytesAt w A [] := .inl rfl
theorem BytesAt.at_ (h : BytesAt w A xs) {k : Nat} (hk : k < xs.length) :
    ∃ b off, A = some ⟨b, off, none⟩ ∧ b < w.heap.size ∧ ∀ (j : Nat) (u : UInt8), xs[j]? = some u → w.cell? ⟨b, off + j, none⟩ = some (B u) := by
  obtain ⟨b, off, e, hb, hc⟩ := At.at_ h (k := k) (by simpa using hk)
  exact ⟨b, off, e, hb, fun j u hu => hc j _ (by rw [List.getElem?_map, hu]; rfl)⟩
theorem BytesAt.still (h : BytesAt w A xs) (k : Kept NoBlk w w') : BytesAt w' A xs := At.still h k
theorem BytesAt.kept (h : BytesAt w A xs) (k : Kept S w w') (hs : ∀ a, A = some a → ¬ S a.block) : BytesAt w' A xs := At.kept h k hs
theorem BytesAt.alloc (h : BytesAt w A xs) (o : Obj) : BytesAt (w.alloc o) A xs := At.alloc h o
theorem BytesAt.mk {b off : Nat} (hb : b < w.heap.size) (hc : ∀ (j : Nat) (u : UInt8), xs[j]? = some u → w.cell? ⟨b, off + j, none⟩ = some (B u)) : BytesAt w (some ⟨b, off, none⟩) xs := by
  refine .inr ⟨b, off, rfl, hb, fun j u hu => ?_⟩
  rw [List.getElem?_map] at hu
  cases h : xs[j]? with
  | none => rw [h] at hu; cases hu
  | some x => rw [h] at hu; simp only [Option.map_some, Option.some.injEq] at hu; rw [hc j x h, hu]
end

section
variable {w w' : World} {N : Nat} {e : TypeId} {v : Value} {n : Nat} {vs : List Value} {S : Nat → Prop}
/-- A row of one-cell elements that the call owns: its form. -/
theorem own_form (h : w.ownsRow N e 1 v n vs) : ∃ A c, v = .slice A n c ∧ n ≤ c ∧ c ≤ maxLen ∧ At w A vs ∧ (0 < n → ∃ g, A = some ⟨g, 0, none⟩ ∧ N ≤ g ∧ g < w.heap.size) := by
  obtain ⟨hl, hn | ⟨g, cap, cur, rfl, hb, hg, hnc, hcm, hcs, ht⟩⟩ := h
  · obtain ⟨rfl, rfl⟩ := hn
    have hv : vs = [] := List.eq_nil_of_length_eq_zero (by simpa using hl)
    subst hv
    exact ⟨none, 0, rfl, Nat.le_refl _, Nat.zero_le _, .inl rfl, fun h => absurd h (by omega)⟩
  · have hB : Blk w g e cur := hg
    refine ⟨some ⟨g, 0, none⟩, cap, rfl, hnc, hcm, hB.at_ vs ?_, fun _ => ⟨g, rfl, hb, hB.lt⟩⟩
    intro j u hu
    have h2 : (cur.toList.take (n * 1))[j]? = some u := by rw [ht]; exact hu
    rw [List.getElem?_take] at h2
    split at h2
    · simpa using h2
    · cases h2
theorem own_lt {A : Option Addr} {c : Nat} (h : w.ownsRow N e 1 (.slice A n c) n vs) : ∀ a, A = some a → N ≤ a.block ∧ a.block < w.heap.size := by
  rintro a rfl
  exact h.lt a.block rfl
theorem own_kept (h : w.ownsRow N e 1 v n vs) (k : Kept S w w') (hs : ∀ g, v.ownBlock = some g → ¬ S g) : w'.ownsRow N e 1 v n vs := by
  obtain ⟨hl, hn | ⟨g, cap, cur, rfl, hb, hg, r⟩⟩ := h
  · exact ⟨hl, .inl hn⟩
  · have hB : Blk w g e cur := hg
    exact ⟨hl, .inr ⟨g, cap, cur, rfl, hb, hB.kept k (hs g rfl), r⟩⟩
theorem own_still (h : w.ownsRow N e 1 v n vs) (k : Kept NoBlk w w') : w'.ownsRow N e 1 v n vs := own_kept h k (fun _ _ e => e)
/-- A step that may have grown a row of the call's own (numbers from N on). -/
theorem Kept.grow {w0 : World} (k : Kept S w0 w) (h : w.ownsRow N e 1 v n vs) (hN : w0.heap.size ≤ N) (hg : w.grownBy w' v.ownBlock) : Kept S w0 w' :=
  k.step (Kept.of_grown (S := fun g => v.ownBlock = some g) hg (fun _ e => e)) (fun i hi e => by have := h.lt i e; omega)
theorem own_base {N' : Nat} (h : w.ownsRow N e 1 v n vs) (hN : N' ≤ N) : w.ownsRow N' e 1 v n vs := by
  obtain ⟨hl, hn | ⟨g, cap, cur, rfl, hb, r⟩⟩ := h
  · exact ⟨hl, .inl hn⟩
  · exact ⟨hl, .inr ⟨g, cap, cur, rfl, Nat.le_trans hN hb, r⟩⟩
end

theorem byte_of {a : Int} (h0 : 0 ≤ a) (h1 : a ≤ 255) : ∃ x : UInt8, a = (x.toNat : Int) :=
  ⟨UInt8.ofNat a.toNat, by rw [UInt8.toNat_ofNat']; omega⟩

theorem byte_zero {x : UInt8} : (x.toNat : Int) = 0 ↔ x = 0 := by
  constructor
  · intro h
    apply UInt8.toNat_inj.1
    show x.toNat = 0
    omega
  · rintro rfl; rfl

/-- What a law is told of a slice of integers that came in: it is nil; or it leads to a row of 'cap' cells, the numbers 'zs' (the first 'len' are its elements, the rest its spare room), each fitting its kind. -/
def IsRow (k : IntKind) (w : World) (a : Option Addr) (len cap : Nat) (zs : List Int) : Prop :=
  (a = none ∧ len = 0 ∧ cap = 0 ∧ zs = []) ∨
  ∃ x, a = some x ∧ len ≤ cap ∧ cap ≤ maxLen ∧ zs.length = cap ∧ (∀ i, i < zs.length → w.cell? (x.add i) = some (.int k (zs.getD i 0))) ∧ ∀ n ∈ zs, (Lit.int k n).wf = true

theorem IsRow.bytes {w : World} {a : Option Addr} {len cap : Nat} {zs : List Int} (h : IsRow .u8 w a len cap zs) :
    ∃ xs : List UInt8, xs.length = len ∧ BytesAt w a xs ∧ len ≤ cap ∧ cap ≤ maxLen := by
  rcases h with ⟨rfl, rfl, rfl, rfl⟩ | ⟨x, rfl, hl, hm, hz, hc, hw⟩
  · exact ⟨[], rfl, .inl rfl, Nat.le_refl _, Nat.zero_le _⟩
  · refine ⟨(zs.take len).map fun z => UInt8.ofNat z.toNat, by simp; omega, ?_, hl, hm⟩
    rcases Nat.eq_zero_or_pos len with h0 | h0
    · left; simp [h0]
    · right
      have c0 := hc 0 (by omega)
      have hs : x.spot = none := by
        have := World.cell?_spot c0
        simpa [Addr.add] using this
      refine ⟨x.block, x.off, by cases x; simp_all, ?_, ?_⟩
      · have := World.block_lt_of_cell? _ _ c0
        simpa [Addr.add] using this
      · intro j u hu
        simp only [List.getElem?_map, List.getElem?_take] at hu
        split at hu
        case isFalse => simp at hu
        rename_i hj
        have hjz : j < zs.length := by omega
        rw [List.getElem?_eq_getElem hjz] at hu
        simp only [Option.map_some, Option.some.injEq] at hu
        subst hu
        have cj := hc j hjz
        have e : x.add j = ⟨x.block, x.off + j, none⟩ := by
          unfold Addr.add
          cases x
          simp only at hs
          subst hs
          by_cases hj0 : j = 0 <;> simp [hj0]
        rw [e] at cj
        rw [cj]
        have hwf := hw zs[j] (List.getElem_mem hjz)
        have hb : 0 ≤ zs[j] ∧ zs[j] ≤ 255 := by
          simp [Lit.wf, IntKind.min, IntKind.max, IntKind.signed, IntKind.bits] at hwf
          omega
        unfold B
        rw [List.getD_eq_getElem?_getD, List.getElem?_eq_getElem hjz]
        simp only [Option.getD_some]
        congr 2
        have : (UInt8.ofNat zs[j].toNat).toNat = zs[j].toNat := by
          rw [UInt8.toNat_ofNat']; omega
        rw [this]; omega

end Go.Proofs.YtdmpiecdpdknaaaGreatDoor
namespace Go.Proofs.YtdmpiecdpdknaaaGreatDoor
open Go.RowKit

section
variable {P : Program} (w : World)
theorem run_append_none (base : Nat) (t ty e : TypeId) (i : TypeInfo) (size : Nat) (ht : P.underlying t = some (.slice e)) (hi : P.info? e = some i)
    (v : Value) (n : Nat) (xs : List Value) (hown : w.ownsRow base e size v n xs) (c : Nat) : (Builtin.append_ #[t, t] ty #[v, .slice none 0 c]).run P w = .ok v w := by
  rcases hown.2 with ⟨rfl, rfl⟩ | ⟨g, cap, cur, rfl, _, _, hnc, _⟩
  · simp [Builtin.append_, run_underlying ht, sizeOf, typeInfo, hi, Builtin.lenOf, Builtin.firstCells]
  · simp [Builtin.append_, run_underlying ht, sizeOf, typeInfo, hi, Builtin.lenOf, Builtin.firstCells, hnc, storeCells]

theorem run_append_at (base : Nat) (t ty e : TypeId) (i : TypeInfo) (z : Value) (bytes : Nat) (ht : P.underlying t = some (.slice e)) (hi : P.info? e = some i) (hz : i.zero = some z)
    (hsize : i.size = 1) (hby : i.bytes = bytes) (hzs : z.cells.size = 1)
    (v : Value) (xs : List Value) (hown : w.ownsRow base e 1 v xs.length xs)
    (A : Option Addr) (c : Nat) (news : List Value) (hr : At w A news) (h1 : ∀ u ∈ news, u.oneCell' = true)
    (h63 : xs.length + news.length ≤ maxLen) (hbytes : (xs.length + news.length) * bytes ≤ 140737488355328) (hbase : base ≤ w.heap.size) :
    ∃ v' w', (Builtin.append_ #[t, t] ty #[v, .slice A news.length c]).run P w = .ok v' w' ∧ w'.ownsRow base e 1 v' (xs ++ news).length (xs ++ news) ∧ w.grownBy w' v.ownBlock ∧
      (v' = .slice none 0 0 ↔ v = .slice none 0 0 ∧ news = []) := by
  rcases A with _ | ad
  · have hn : news = [] := by
      rcases hr with h | ⟨b, off, h, _⟩
      · exact h
      · cases h
    subst hn
    exact ⟨v, w, run_append_none w base t ty e i 1 ht hi v _ xs hown c, by simpa using hown, ⟨rfl, rfl, rfl, Nat.le_refl _, fun _ _ _ => rfl⟩, by simp⟩
  · have hcells : ∀ (j : Nat) (u : Value), news[j]? = some u → w.cell? (ad.add j) = some u := by
      intro j u hu
      rcases hr with rfl | ⟨b, off, h, _, hc⟩
      · simp at hu
      · cases h
        have e : (⟨b, off, none⟩ : Addr).add j = ⟨b, off + j, none⟩ := by
          unfold Addr.add
          by_cases hj : j = 0 <;> simp [hj]
        rw [e]; exact hc j u hu
    obtain ⟨v', w', hr', h2, h3, h4⟩ := run_append_own (P := P) w base t ty e i z 1 bytes ht hi hz hsize hby hzs (by decide) v xs.length xs hown ad news.length c news (by simp) hcells h1 h63 hbytes hbase
    refine ⟨v', w', hr', by rw [List.length_append]; exact h2, h3, ?_⟩
    rw [h4]; simp

theorem wpList_append_at {ops : Array Oper} {rest : List Oper} {o : Oper} {a : Act} {Q : Exit → Act → World → Prop} (hgd : o.guard = none) (s x : Operand) (t : TypeId)
    (ho : o.op = .call { callee := .builtin .append, args := #[s, x], argTypes := #[t, t] })
    (base : Nat) (e : TypeId) (i : TypeInfo) (z : Value) (bytes : Nat) (ht : P.underlying t = some (.slice e)) (hi : P.info? e = some i) (hz : i.zero = some z)
    (hsize : i.size = 1) (hby : i.bytes = bytes) (hzs : z.cells.size = 1)
    (v : Value) (xs : List Value) (hs : a.eval s = v) (hown : w.ownsRow base e 1 v xs.length xs)
    (A : Option Addr) (c m : Nat) (news : List Value) (hx : a.eval x = .slice A m c) (hm : m = news.length) (hr : At w A news) (h1 : ∀ u ∈ news, u.oneCell' = true)
    (h63 : xs.length + news.length ≤ maxLen) (hbytes : (xs.length + news.length) * bytes ≤ 140737488355328) (hbase : base ≤ w.heap.size)
    (h : ∀ v' w', w'.ownsRow base e 1 v' (xs ++ news).length (xs ++ news) → w.grownBy w' v.ownBlock → (v' = .slice none 0 0 ↔ v = .slice none 0 0 ∧ news = []) → wpList P ops Q rest (a.put o.dst v') w') : wpList P ops Q (o :: rest) a w := by
  subst hm
  refine wpList_plain hgd fun K hK => ?_
  obtain ⟨v', w', hr', h2, h3, h4⟩ := run_append_at (P := P) w base t o.type e i z bytes ht hi hz hsize hby hzs v xs hown A c news hr h1 h63 hbytes hbase
  unfold Oper.wp execOp
  simp only [ho, resolve, invoke, builtin, Sem.run_bind, Sem.run_pure, Result.andThen_ok, List.map_toArray, List.map_cons, List.map_nil, hs, hx, hr']
  exact hK _ _ (h v' w' h2 h3 h4)
end

theorem infoByte : (Tryz.prog.info? 5).map (fun i => (i.zero, i.size, i.bytes)) = some (some (.int .u8 0), 1, 1) := by kernel_rfl

theorem oneCell_bytes (xs : List UInt8) : ∀ u ∈ xs.map B, u.oneCell' = true := by
  intro u hu
  obtain ⟨x, _, rfl⟩ := List.mem_map.1 hu
  rfl

/-- append onto a row of bytes of the call's own. -/
theorem wpList_append_bytes {ops : Array Oper} {rest : List Oper} {o : Oper} {a : Act} {Q : Exit → Act → World → Prop} (w : World) (hgd : o.guard = none) (s x : Operand)
    (ho : o.op = .call { callee := .builtin .append, args := #[s, x], argTypes := #[22, 22] })
    (N : Nat) (v : Value) (xs : List UInt8) (hs : a.eval s = v) (hown : w.ownsRow N 5 1 v xs.length (xs.map B))
    (A : Option Addr) (c m : Nat) (ys : List UInt8) (hx : a.eval x = .slice A m c) (hm : m = ys.length) (hr : BytesAt w A ys)
    (hlen : xs.length + ys.length ≤ 140737488355328) (hN : N ≤ w.heap.size)
    (h : ∀ v' w', w'.ownsRow N 5 1 v' (xs ++ ys).length ((xs ++ ys).map B) → w.grownBy w' v.ownBlock → wpList Tryz.prog ops Q rest (a.put o.dst v') w') : wpList Tryz.prog ops Q (o :: rest) a w := by
  obtain ⟨i, hi, hz0, hz1, hz2⟩ := info_parts infoByte
  refine wpList_append_at w hgd s x 22 ho N 5 i (.int .u8 0) 1 Tryz.underlying22 hi hz0 hz1 hz2 rfl v (xs.map B) hs (by simpa using hown) A c m (ys.map B) hx (by simpa using hm) hr
    (oneCell_bytes ys) (by simp only [List.length_map]; unfold maxLen; omega) (by simp only [List.length_map]; omega) hN ?_
  intro v' w' h2 h3 _
  refine h v' w' ?_ h3
  rw [← List.map_append] at h2
  simpa using h2

/-- The same, the new slice told by its parts. -/
theorem wpList_append_slice {ops : Array Oper} {rest : List Oper} {o : Oper} {a : Act} {Q : Exit → Act → World → Prop} (w : World) (hgd : o.guard = none) (s x : Operand)
    (ho : o.op = .call { callee := .builtin .append, args := #[s, x], argTypes := #[22, 22] })
    (N : Nat) (v : Value) (xs : List UInt8) (hs : a.eval s = v) (hown : w.ownsRow N 5 1 v xs.length (xs.map B))
    (A : Option Addr) (c m : Nat) (ys : List UInt8) (hx : a.eval x = .slice A m c) (hm : m = ys.length) (hr : BytesAt w A ys) (n : Nat) (hn : n = xs.length + ys.length)
    (hlen : xs.length + ys.length ≤ 140737488355328) (hN : N ≤ w.heap.size)
    (h : ∀ A' c' w', w'.ownsRow N 5 1 (.slice A' n c') (xs ++ ys).length ((xs ++ ys).map B) → w.grownBy w' v.ownBlock → wpList Tryz.prog ops Q rest (a.put o.dst (.slice A' n c')) w') : wpList Tryz.prog ops Q (o :: rest) a w := by
  subst hn
  refine wpList_append_bytes w hgd s x ho N v xs hs hown A c m ys hx hm hr hlen hN ?_
  intro v' w' h2 h3
  obtain ⟨A', c', rfl, _⟩ := own_form h2
  rw [List.length_append] at h2 ⊢
  exact h A' c' w' (by rw [List.length_append]; exact h2) h3

/-- string(b). -/
theorem conv_bytes (w : World) (A : Option Addr) (c : Nat) (xs : List UInt8) (h : BytesAt w A xs) :
    (convert 22 9 (.slice A xs.length c)).run Tryz.prog w = .ok (.string ⟨xs.toArray⟩) w := by
  rcases A with _ | ad
  · have hx : xs = [] := by
      rcases h with h | ⟨b, off, h, _⟩
      · simpa using h
      · cases h
    subst hx
    exact run_convert_bytes_nil w 22 5 Tryz.underlying22 Tryz.underlying5 _ _ _ Tryz.underlying9
  · refine run_convert_bytes_back w 22 9 5 ad c xs Tryz.underlying22 Tryz.underlying5 Tryz.underlying9 ?_
    intro j hj
    obtain ⟨b, off, e, _, hc⟩ := h.at_ hj
    cases e
    have e : (⟨b, off, none⟩ : Addr).add j = ⟨b, off + j, none⟩ := by
      unfold Addr.add
      by_cases hj : j = 0 <;> simp [hj]
    rw [e]
    exact hc j _ (List.getElem?_eq_getElem hj)

/-- What a copy of bytes is: a row of the call's own. -/
def GivesBytes (N : Nat) (xs : List UInt8) (w : World) (e : Ending) (w' : World) : Prop :=
  ∃ v, e = .returned v ∧ w'.ownsRow N 5 1 v xs.length (xs.map B) ∧ Kept NoBlk w w'

theorem copied_any (w : World) (A : Option Addr) (c : Nat) (xs : List UInt8) (h : BytesAt w A xs) (hl : xs.length ≤ 140737488355328) :
    Calls Tryz.prog 21 #[.slice A xs.length c] w (GivesBytes w.heap.size xs w) := by
  go_enter Tryz.func21, Tryz.ntmps21
  go_wp2_with (at_builtin; refine wpList_append_bytes _ rfl _ _ rfl w.heap.size (.slice none 0 0) [] rfl (World.ownsRow_nil _ _ _ _) A c _ xs rfl rfl h (by simp; omega) (Nat.le_refl _) ?_; intro v' w1 hown hgrow)
  go_ret
  exact ⟨v', rfl, by simpa using hown, Kept.of_grown hgrow (fun g hg => by cases hg)⟩

/-- laws.same tells whether bytes are the same. -/
theorem same_any (w : World) (A A' : Option Addr) (c c' : Nat) (xs ys : List UInt8) (hx : BytesAt w A xs) (hy : BytesAt w A' ys) :
    Calls Tryz.prog 12 #[.slice A xs.length c, .slice A' ys.length c'] w fun e w' => e = .returned (.bool (xs == ys)) ∧ w = w' := by
  have h1 := conv_bytes w A c xs hx
  have h2 := conv_bytes w A' c' ys hy
  go_enter Tryz.func12, Tryz.ntmps12
  go_wp2
  go_ret
  exact ⟨rfl, rfl⟩

end Go.Proofs.YtdmpiecdpdknaaaGreatDoor
namespace Go.Proofs.YtdmpiecdpdknaaaGreatDoor
open Go.RowKit

theorem length_take_min {α : Type} (l : List α) (k n : Nat) (hk : k = min l.length n) : (l.take k).length = k := by rw [List.length_take]; omega

theorem setRow_kept (w : World) (g : Nat) (cs : Array Value) : Kept (OneBlk g) w (w.setRow g cs) :=
  ⟨rfl, rfl, rfl, by simp, fun k _ hn => setRow_other w g k cs hn⟩

theorem wpList_copy_at {P : Program} {w : World} {ops : Array Oper} {rest : List Oper} {o : Oper} {a : Act} {Q : Exit → Act → World → Prop} (hgd : o.guard = none) (d s : Operand) (dT sT : TypeId)
    (ho : o.op = .call { callee := .builtin .copy, args := #[d, s], argTypes := #[dT, sT] }) (elem : TypeId) (hu : P.underlying dT = some (.slice elem)) (hsz : (P.info? elem).map (·.size) = some 1)
    (dp sp : Option Addr) (dLen dCap sLen sCap : Nat) (hd : a.eval d = .slice dp dLen dCap) (hs : a.eval s = .slice sp sLen sCap)
    (g off : Nat) (L : List Value) (t : TypeId) (hg : Blk w g t L.toArray) (vs : List Value) (hsp : At w sp vs) (hsl : sLen = vs.length) (k : Nat) (hk : k = min vs.length dLen)
    (hdp : 0 < k → dp = some ⟨g, off, none⟩) (hfit : off + k ≤ L.length) (h1 : ∀ v ∈ vs, v.oneCell' = true)
    (h : ∀ w', Blk w' g t (splice L off (vs.take k)).toArray → Kept (OneBlk g) w w' → wpList P ops Q rest (a.put o.dst (.int .i64 (k : Int))) w') : wpList P ops Q (o :: rest) a w := by
  subst hsl
  rcases Nat.eq_zero_or_pos k with h0 | h0
  · refine wpList_copy_nothing hgd d s dT sT ho elem hu hsz dp sp dLen dCap _ sCap hd hs (by show min _ _ = 0; omega) ?_
    have := h w (by rw [h0]; simpa [splice] using hg) (Kept.refl _ _)
    rw [h0] at this
    exact this
  · obtain ⟨b, o2, rfl, hb, hc⟩ := hsp.at_ (k := 0) (by omega)
    obtain rfl := hdp h0
    have hl : (vs.take k).length = k := length_take_min vs k dLen hk
    refine wpList_copy_own hgd d s dT sT ho elem hu hsz g off dLen dCap ⟨b, o2, none⟩ vs.length sCap hd hs L.toArray t hg (vs.take k) (by rw [hl]; exact hk) ?_ (by rw [hl]; simpa using hfit)
      (fun v hv => h1 v (List.mem_of_mem_take hv)) ?_
    · intro j v hv
      have e : (⟨b, o2, none⟩ : Addr).add j = ⟨b, o2 + j, none⟩ := by
        unfold Addr.add
        by_cases hj : j = 0 <;> simp [hj]
      rw [e]
      rw [List.getElem?_take] at hv
      split at hv
      · exact hc j v hv
      · cases hv
    · rw [hl]
      have hs' := setRow_heap w g L.toArray (splice L off (vs.take k)).toArray t (0, 0) hg
      have := h (w.setRow g (splice L off (vs.take k)).toArray) hs' (setRow_kept _ _ _)
      simpa [splice, hl, goInt] using this

theorem infoSize : (Tryz.prog.info? 5).map (·.size) = some 1 := by kernel_rfl

/-- copy of bytes onto a block of bytes. -/
theorem wpList_copy_bytes {w : World} {ops : Array Oper} {rest : List Oper} {o : Oper} {a : Act} {Q : Exit → Act → World → Prop} (hgd : o.guard = none) (d s : Operand)
    (ho : o.op = .call { callee := .builtin .copy, args := #[d, s], argTypes := #[22, 22] })
    (dp sp : Option Addr) (dLen dCap sLen sCap : Nat) (hd : a.eval d = .slice dp dLen dCap) (hs : a.eval s = .slice sp sLen sCap)
    (g off : Nat) (L : List Value) (hg : Blk w g 5 L.toArray) (xs : List UInt8) (hsp : BytesAt w sp xs) (hsl : sLen = xs.length) (k : Nat) (hk : k = min xs.length dLen)
    (hdp : 0 < k → dp = some ⟨g, off, none⟩) (hfit : off + k ≤ L.length)
    (h : ∀ w', Blk w' g 5 (splice L off ((xs.take k).map B)).toArray → Kept (OneBlk g) w w' → wpList Tryz.prog ops Q rest (a.put o.dst (.int .i64 (k : Int))) w') : wpList Tryz.prog ops Q (o :: rest) a w :=
  wpList_copy_at hgd d s 22 22 ho 5 Tryz.underlying22 infoSize dp sp dLen dCap sLen sCap hd hs g off L 5 hg (xs.map B) hsp (by simpa using hsl) k (by simpa using hk) hdp hfit (oneCell_bytes xs)
    (fun w' h1 h2 => h w' (by rw [List.map_take]; exact h1) h2)

/-- copy, as it runs. -/
theorem run_copy_bytes (w : World) (ty : TypeId) (dp sp : Option Addr) (dLen dCap sLen sCap : Nat) (g off : Nat) (L : List Value) (t : TypeId) (hg : Blk w g t L.toArray) (xs : List UInt8) (hsp : BytesAt w sp xs) (hsl : sLen = xs.length) (k : Nat) (hk : k = min xs.length dLen)
    (hdp : 0 < k → dp = some ⟨g, off, none⟩) (hfit : off + k ≤ L.length) :
    ∃ w', (Builtin.copy_ #[22, 22] ty #[.slice dp dLen dCap, .slice sp sLen sCap]).run Tryz.prog w = .ok (.int .i64 (k : Int)) w' ∧ Blk w' g t (splice L off ((xs.take k).map B)).toArray ∧ Kept (OneBlk g) w w' := by
  subst hsl
  rcases Nat.eq_zero_or_pos k with h0 | h0
  · refine ⟨w, ?_, by rw [h0]; simpa [splice] using hg, Kept.refl _ _⟩
    rw [run_copy_none w _ _ ty 5 dp sp dLen dCap _ sCap Tryz.underlying22 infoSize (by show min _ _ = 0; omega), h0]
    rfl
  · obtain ⟨b, o2, rfl, hb, hc⟩ := BytesAt.at_ hsp (k := 0) (by omega)
    obtain rfl := hdp h0
    have hl : ((xs.take k).map B).length = k := by rw [List.length_map]; exact length_take_min xs k dLen hk
    have hr := run_copy_row (P := Tryz.prog) w 22 22 ty 5 g off dLen dCap ⟨b, o2, none⟩ xs.length sCap L.toArray t ((xs.take k).map B) Tryz.underlying22 infoSize hg (by rw [hl]; exact hk)
      (by
        intro j v hv
        have e : (⟨b, o2, none⟩ : Addr).add j = ⟨b, o2 + j, none⟩ := by
          unfold Addr.add
          by_cases hj : j = 0 <;> simp [hj]
        rw [e]
        rw [List.getElem?_map] at hv
        cases hx : (xs.take k)[j]? with
        | none => rw [hx] at hv; cases hv
        | some x =>
          rw [hx] at hv
          simp only [Option.map_some, Option.some.injEq] at hv
          subst hv
          rw [List.getElem?_take] at hx
          split at hx
          · exact hc j x hx
          · cases hx)
      (by rw [hl]; simpa using hfit) (oneCell_bytes _)
    refine ⟨_, hr.trans (by rw [hl]; rfl), ?_, setRow_kept _ _ _⟩
    have hs' := setRow_heap w g L.toArray (splice L off ((xs.take k).map B)).toArray t (0, 0) hg
    have hmin : min k xs.length = k := by omega
    simpa [splice, hmin, Blk] using hs'

section
variable {α : Type} (L vs : List α) (off : Nat)
theorem getElem?_splice (h : off + vs.length ≤ L.length) (j : Nat) : (splice L off vs)[j]? = if off ≤ j ∧ j < off + vs.length then vs[j - off]? else L[j]? := by
  unfold splice
  rw [List.getElem?_append, List.length_take]
  split
  · rename_i h1
    rw [List.getElem?_take, if_pos (by omega), if_neg (by omega)]
  · rename_i h1
    rw [List.getElem?_append]
    split
    · rename_i h2
      rw [if_pos (by omega)]
      congr 1; omega
    · rename_i h2
      rw [if_neg (by omega), List.getElem?_drop]
      congr 1; omega
theorem splice_set (i : Nat) (v : α) (hi : i < vs.length) (h : off + vs.length ≤ L.length) : (splice L off vs).set (off + i) v = splice L off (vs.set i v) := by
  apply List.ext_getElem?
  intro j
  rw [List.getElem?_set, getElem?_splice L vs off h, getElem?_splice L (vs.set i v) off (by simpa using h), length_splice L off vs h]
  simp only [List.length_set, List.getElem?_set]
  by_cases hj : off + i = j
  · subst hj
    rw [if_pos rfl, if_pos (by omega), if_pos (by omega), if_pos (by omega), if_pos hi]
  · rw [if_neg hj]
    split
    · rw [if_neg (by omega)]
    · rfl
theorem splice_splice (us : List α) (h : off + vs.length ≤ L.length) (hu : us.length = vs.length) : splice (splice L off vs) off us = splice L off us := by
  apply List.ext_getElem?
  intro j
  rw [getElem?_splice _ us off (by rw [length_splice L off vs h]; omega), getElem?_splice L vs off h, getElem?_splice L us off (by omega)]
  split
  · rfl
  · rw [if_neg (by omega)]
theorem splice_app (us : List α) (h : off + vs.length + us.length ≤ L.length) : splice (splice L off vs) (off + vs.length) us = splice L off (vs ++ us) := by
  apply List.ext_getElem?
  intro j
  rw [getElem?_splice _ us _ (by rw [length_splice L off vs (by omega)]; omega), getElem?_splice L vs off (by omega), getElem?_splice L (vs ++ us) off (by rw [List.length_append]; omega), List.length_append]
  by_cases h1 : off + vs.length ≤ j ∧ j < off + vs.length + us.length
  · rw [if_pos h1, if_pos (by omega), List.getElem?_append_right (by omega)]
    congr 1; omega
  · rw [if_neg h1]
    by_cases h2 : off ≤ j ∧ j < off + vs.length
    · rw [if_pos h2, if_pos (by omega), List.getElem?_append_left (by omega)]
    · rw [if_neg h2, if_neg (by omega)]
theorem splice_one (k : Nat) (v : α) (hk : k < vs.length) (h : off + vs.length ≤ L.length) : splice (splice L off vs) (off + k) [v] = splice L off (vs.set k v) := by
  rw [← splice_set L vs off k v hk h]
  apply List.ext_getElem?
  intro j
  rw [getElem?_splice _ [v] _ (by rw [length_splice L off vs h]; simp; omega), List.getElem?_set, length_splice L off vs h]
  by_cases hj : off + k = j
  · subst hj
    rw [if_pos (by simp), if_pos rfl, if_pos (by omega)]
    simp
  · rw [if_neg (by simp; omega), if_neg hj]
theorem splice_nil : splice L off ([] : List α) = L := by simp [splice]
end

end Go.Proofs.YtdmpiecdpdknaaaGreatDoor
