/-
  Rows of words: make, clear, copy.
  bigmod.Nat: NewNat, reset, expand, set.
  bigmod.Nat: set, and what a modulus hands on: its number, resetFor, ExpandFor.
  bigmod.Nat: maybeSubtractModulus, Add, Sub, SubOne.
  bigmod.addMulVVW.
  Montgomery's multiplication: the plain laws.
-/
import Derived.Test.YtdmpiecdpdknaaaGreatDoorGa
import Derived.Test.YtdmpiecdpdknaaaGreatDoorGj
import Derived.StillTailTactics
namespace Go.Proofs.YtdmpiecdpdknaaaGreatDoor
open Go.RowKit

theorem infoWord : (Tryz.prog.info? 67).map (fun i => (i.zero, i.size, i.bytes)) = some (some (.int .u64 0), 1, 8) := by kernel_rfl
theorem infoSizeW : (Tryz.prog.info? 67).map (·.size) = some 1 := by kernel_rfl
theorem oneCell_words (xs : List Nat) : ∀ u ∈ xs.map U, u.oneCell' = true := by
  intro u hu
  obtain ⟨x, _, rfl⟩ := List.mem_map.1 hu
  rfl

def noughtRow (n : Nat) : Array Value := ((List.replicate n 0).map U).toArray

theorem make_words (w : World) (n c : Nat) (hn : n ≤ c) (hc : c ≤ 17592186044416) :
    (Instr.makeSlice 89 (.int .i64 (n : Int)) (.int .i64 (c : Int))).run Tryz.prog w = .ok (.slice (some ⟨w.heap.size, 0, none⟩) n c) (w.alloc (.cells (noughtRow c) 67)) := by
  obtain ⟨i, hi, hz0, hz1, hz2⟩ := info_parts infoWord
  have h := run_make (P := Tryz.prog) w 89 67 i (.int .u64 0) Tryz.underlying89 hi hz0 .i64 .i64 n c (by omega) (by omega) (by rw [hz2]; omega) (by omega)
  have e : madeCells (Value.int IntKind.u64 0).cells ((c : Int).toNat * i.size) = noughtRow c := by
    apply Array.toList_inj.1
    rw [hz1, show (Value.int IntKind.u64 0).cells = #[Value.int IntKind.u64 0] from rfl, toList_madeCells_one]
    simp [noughtRow, U]
  rw [h, e]
  simp only [Int.toNat_natCast]

theorem zeroCells_words (n : Nat) : (Builtin.zeroCells (Value.int IntKind.u64 0).cells n).toList = (List.replicate n 0).map U := by
  rw [show (Value.int IntKind.u64 0).cells = #[Value.int IntKind.u64 0] from rfl]
  unfold Builtin.zeroCells
  apply List.ext_getElem
  · simp
  · intro i h1 h2
    simp [U, Nat.mod_one]

theorem run_clear_words (w : World) (ty : TypeId) (g off n c : Nat) (L : List Value) (t : TypeId) (hg : Blk w g t L.toArray) (hfit : off + n ≤ L.length) :
    ∃ w', (Builtin.clear_ #[89] ty #[.slice (some ⟨g, off, none⟩) n c]).run Tryz.prog w = .ok (.tuple #[]) w' ∧ Blk w' g t (splice L off ((List.replicate n 0).map U)).toArray ∧ Kept (OneBlk g) w w' := by
  obtain ⟨i, hi, hz0, hz1, hz2⟩ := info_parts infoWord
  rcases Nat.eq_zero_or_pos n with h0 | h0
  · subst h0
    refine ⟨w, ?_, by simpa [splice] using hg, Kept.refl _ _⟩
    simp [Builtin.clear_, run_underlying Tryz.underlying89]
  · have hst := run_storeCells_at (P := Tryz.prog) g off t ((List.replicate n 0).map U) 0 L.toArray w hg (by simpa using hfit) (oneCell_words _)
    refine ⟨w.setRow g (splice L off ((List.replicate n 0).map U)).toArray, ?_, ?_, setRow_kept _ g _⟩
    · obtain ⟨m, rfl⟩ : ∃ m, n = m + 1 := ⟨n - 1, by omega⟩
      have hz : (zeroValue 67).run Tryz.prog w = .ok (.int .u64 0) w := by
        simp [zeroValue, typeInfo, hi, hz0]
      have e : splice L off ((List.replicate (m + 1) 0).map U) = L.take (off + 0) ++ (List.replicate (m + 1) 0).map U ++ L.drop (off + 0 + ((List.replicate (m + 1) 0).map U).length) := by simp [splice]
      rw [e]
      simp only [Builtin.clear_]
      simp [run_underlying Tryz.underlying89, hz, zeroCells_words]
      simp at hst
      rw [hst]
      rfl
    · have hs' := setRow_heap w g L.toArray (splice L off ((List.replicate n 0).map U)).toArray t (0, 0) hg
      exact hs'

theorem wpList_clear_words {w : World} {ops : Array Oper} {rest : List Oper} {o : Oper} {a : Act} {Q : Exit → Act → World → Prop} (hgd : o.guard = none) (d : Operand)
    (ho : o.op = .call { callee := .builtin .clear, args := #[d], argTypes := #[89] }) (g off n c : Nat) (hd : a.eval d = .slice (some ⟨g, off, none⟩) n c) (L : List Value) (t : TypeId) (hg : Blk w g t L.toArray) (hfit : off + n ≤ L.length)
    (h : ∀ w', Blk w' g t (splice L off ((List.replicate n 0).map U)).toArray → Kept (OneBlk g) w w' → wpList Tryz.prog ops Q rest (a.put o.dst (.tuple #[])) w') : wpList Tryz.prog ops Q (o :: rest) a w := by
  refine wpList_plain hgd fun K hK => ?_
  obtain ⟨w', hrun, h1, h2⟩ := run_clear_words w o.type g off n c L t hg hfit
  unfold Oper.wp
  simp [execOp, ho, resolve, invoke, builtin, hd, hrun, Result.andThen]
  exact hK _ _ (h w' h1 h2)

/-- copy, as it runs. -/
theorem run_copy_words (w : World) (ty : TypeId) (dp sp : Option Addr) (dLen dCap sLen sCap : Nat) (g off : Nat) (L : List Value) (t : TypeId) (hg : Blk w g t L.toArray) (xs : List Nat) (hsp : At w sp (xs.map U)) (hsl : sLen = xs.length) (k : Nat) (hk : k = min xs.length dLen)
    (hdp : 0 < k → dp = some ⟨g, off, none⟩) (hfit : off + k ≤ L.length) :
    ∃ w', (Builtin.copy_ #[89, 89] ty #[.slice dp dLen dCap, .slice sp sLen sCap]).run Tryz.prog w = .ok (.int .i64 (k : Int)) w' ∧ Blk w' g t (splice L off ((xs.take k).map U)).toArray ∧ Kept (OneBlk g) w w' := by
  subst hsl
  rcases Nat.eq_zero_or_pos k with h0 | h0
  · refine ⟨w, ?_, by rw [h0]; simpa [splice] using hg, Kept.refl _ _⟩
    rw [run_copy_none w _ _ ty 67 dp sp dLen dCap _ sCap Tryz.underlying89 infoSizeW (by show min _ _ = 0; omega), h0]
    rfl
  · obtain ⟨b, o2, rfl, hb, hc⟩ := At.at_ hsp (k := 0) (by simp; omega)
    obtain rfl := hdp h0
    have hl : ((xs.take k).map U).length = k := by rw [List.length_map]; exact length_take_min xs k dLen hk
    have hr := run_copy_row (P := Tryz.prog) w 89 89 ty 67 g off dLen dCap ⟨b, o2, none⟩ xs.length sCap L.toArray t ((xs.take k).map U) Tryz.underlying89 infoSizeW hg (by rw [hl]; exact hk)
      (by
        intro j v hv
        have e : (⟨b, o2, none⟩ : Addr).add j = ⟨b, o2 + j, none⟩ := by
          unfold Addr.add
          by_cases hj : j = 0 <;> simp [hj]
        rw [e]
        refine hc j v ?_
        rw [List.getElem?_map] at hv ⊢
        rw [List.getElem?_take] at hv
        split at hv
        · exact hv
        · cases hv)
      (by rw [hl]; simpa using hfit) (oneCell_words _)
    refine ⟨_, hr.trans (by rw [hl]; rfl), ?_, setRow_kept _ _ _⟩
    have hs' := setRow_heap w g L.toArray (splice L off ((xs.take k).map U)).toArray t (0, 0) hg
    have hmin : min k xs.length = k := by omega
    simpa [splice, hmin, Blk] using hs'

end Go.Proofs.YtdmpiecdpdknaaaGreatDoor
namespace Go.Proofs.YtdmpiecdpdknaaaGreatDoor
open Go.RowKit

def Both (p b : Nat) : Nat → Prop := fun k => k = p ∨ k = b
def noughts (n : Nat) : List Nat := List.replicate n 0
theorem noughts_wd (n : Nat) : Wd (noughts n) := Wd.replicate n 0 (by decide)
theorem noughts_length (n : Nat) : (noughts n).length = n := List.length_replicate
theorem val_noughts (n : Nat) : val (noughts n) = 0 := val_replicate_zero n

theorem newNat_any (w : World) :
    Calls Tryz.prog 41 #[] w fun e w' => e = .returned (.pointer (some ⟨w.heap.size + 1, 0, none⟩)) ∧ NatAt w' (w.heap.size + 1) w.heap.size [] (noughts 32) ∧ Kept NoBlk w w' := by
  have hmk : ∀ w' : World, (Instr.makeSlice 89 (.int .i64 0) (.int .i64 32)).run Tryz.prog w' = .ok (.slice (some ⟨w'.heap.size, 0, none⟩) 0 32) (w'.alloc (.cells (noughtRow 32) 67)) := fun w' => make_words w' 0 32 (by decide) (by decide)
  go_enter Tryz.func41, Tryz.ntmps41
  go_wp2_with fail
  go_ret
  have h1 := Blk.new (w.alloc (Obj.cells (noughtRow 32) 67)) 91 #[.slice (some ⟨w.heap.size, 0, none⟩) 0 32]
  have h2 := (Blk.new w 67 (noughtRow 32)).alloc (.cells #[.slice (some ⟨w.heap.size, 0, none⟩) 0 32] 91)
  rw [show (w.alloc (Obj.cells (noughtRow 32) 67)).heap.size = w.heap.size + 1 by simp] at h1
  have e1 : ([] ++ noughts 32).length = 32 := by simp [noughts_length]
  refine ⟨rfl, ⟨?_, ?_, Wd.nil, noughts_wd 32⟩, ((Kept.refl _ w).alloc _).alloc _⟩
  · rw [noughts_length]; exact h1
  · rw [List.nil_append]; exact h2

/-- What a resizing leaves: the number zs, in the old row or in a new one. -/
def Sized (p b : Nat) (zs : List Nat) (capOld : Nat) (w : World) (e : Ending) (w' : World) : Prop :=
  e = .returned (.pointer (some ⟨p, 0, none⟩)) ∧ ∃ (b' : Nat) (rest' : List Nat), NatAt w' p b' zs rest' ∧ (b' = b ∧ zs.length + rest'.length = capOld ∨ w.heap.size ≤ b' ∧ capOld < zs.length) ∧ zs.length + rest'.length ≤ max zs.length capOld ∧ Kept (Both p b) w w'

set_option maxRecDepth 4000 in
theorem reset_any (p b n : Nat) (xs rest : List Nat) (w : World) (hx : NatAt w p b xs rest) (hn : n ≤ 1000000) :
    Calls Tryz.prog 77 #[.pointer (some ⟨p, 0, none⟩), .int .i64 n] w (Sized p b (noughts n) (xs.length + rest.length) w) := by
  have c1 := hx.cell
  have f1 := hx.1.frozen 0
  have HX := Lib.hid hx
  by_cases hlt : xs.length + rest.length < n
  · have hmk := fun w' => make_words w' n n (Nat.le_refl _) (by omega)
    have hpl := hx.lt.1
    clear hx
    go_enter Tryz.func77, Tryz.ntmps77
    go_wp2_with fail
    go_ret
    have h1 := ((HX.out.1).set_ 0 (.slice (some ⟨w.heap.size, 0, none⟩) n n)).alloc (.cells (noughtRow n) 67)
    have h2 := Blk.new (w.setCell ⟨p, 0, none⟩ (.slice (some ⟨w.heap.size, 0, none⟩) n n)) 67 (noughtRow n)
    rw [show (w.setCell ⟨p, 0, none⟩ (.slice (some ⟨w.heap.size, 0, none⟩) n n)).heap.size = w.heap.size by simp [World.setCell]] at h2
    refine ⟨rfl, w.heap.size, [], ⟨?_, ?_, noughts_wd n, Wd.nil⟩, .inr ⟨Nat.le_refl _, by rw [noughts_length]; exact hlt⟩, by rw [noughts_length]; simp; omega, ((Kept.refl (Both p b) w).setCell _ _ (fun _ => .inl rfl)).alloc _⟩
    · rw [noughts_length]; exact h1
    · rw [List.append_nil]; exact h2
  · have key : ∀ (m : Nat) (w1 : World), n ≤ m → m ≤ xs.length + rest.length → Blk w1 b 67 (splice ((xs ++ rest).map U) 0 ((List.replicate m 0).map U)).toArray → Kept (OneBlk b) w.drew w1 →
        Sized p b (noughts n) (xs.length + rest.length) w (.returned (.pointer (some ⟨p, 0, none⟩))) (w1.setCell ⟨p, 0, none⟩ (.slice (some ⟨b, 0, none⟩) n (xs.length + rest.length))) := by
      intro m w1 h1 h2 b1 k1
      have hp1 := HX.out.1.kept (w' := w.drew) ((Kept.refl NoBlk w).drew) (fun e => e)
      have hp2 := (hp1.kept k1 HX.out.pb).set_ 0 (.slice (some ⟨b, 0, none⟩) n (xs.length + rest.length))
      have hb2 := b1.far (p := ⟨p, 0, none⟩) (fun e => HX.out.pb e.symm) (.slice (some ⟨b, 0, none⟩) n (xs.length + rest.length))
      have hrow : splice ((xs ++ rest).map U) 0 ((List.replicate m 0).map U) = (noughts n ++ (noughts (m - n) ++ (xs ++ rest).drop m)).map U := by
        have : List.replicate m 0 = noughts n ++ noughts (m - n) := by
          unfold noughts; rw [List.replicate_append_replicate]; congr 1; omega
        have hl : (noughts n ++ noughts (m - n)).length = m := by rw [List.length_append, noughts_length, noughts_length]; omega
        rw [this, ← List.append_assoc, List.map_append (l₁ := noughts n ++ noughts (m - n)), List.map_drop]
        unfold splice
        rw [List.length_map, hl, List.take_zero, List.nil_append, Nat.zero_add]
      rw [hrow] at hb2
      have hlen : (noughts (m - n) ++ (xs ++ rest).drop m).length = xs.length + rest.length - n := by simp [noughts]; omega
      refine ⟨rfl, b, noughts (m - n) ++ (xs ++ rest).drop m, ⟨?_, hb2, noughts_wd n, (noughts_wd _).app ((HX.out.2.2.1.app HX.out.2.2.2).drop m)⟩, .inl ⟨rfl, by rw [hlen, noughts_length]; omega⟩, by rw [hlen, noughts_length]; omega, ?_⟩
      · rw [hlen, noughts_length, show n + (xs.length + rest.length - n) = xs.length + rest.length by omega]; exact hp2
      · exact (((Kept.refl (Both p b) w).drew).step k1 (fun _ _ e => .inr e)).setCell _ _ (fun _ => .inl rfl)
    have KEY := Lib.hid key
    clear hx key
    rcases Nat.lt_or_ge n xs.length with hnl | hnl
    · have bl1 : (xs.length : Int) ≤ (xs.length : Int) + (rest.length : Int) := by omega
      go_enter Tryz.func77, Tryz.ntmps77
      go_wp2_with fail
      go_still_tail 12, (by kernel_rfl)
      change wpList _ _ _ _ _ w.drew
      refine wpList_clear_words (by rfl) (.tmp 29) (by rfl) b 0 xs.length (xs.length + rest.length) (by rfl) ((xs ++ rest).map U) 67 HX.out.2.1 (by simp) ?_
      intro w1 b1 k1
      have hp1 := HX.out.1.kept (w' := w.drew) ((Kept.refl NoBlk w).drew) (fun e => e)
      have hp2 := hp1.kept k1 HX.out.pb
      have c1 : w1.cell? ⟨p, 0, none⟩ = some (.slice (some ⟨b, 0, none⟩) xs.length (xs.length + rest.length)) := hp2.cellIs rfl
      have f1 := hp2.frozen 0
      have HK := Lib.hid (KEY.out _ w1 (by omega) (by omega) b1 k1)
      clear b1 k1 hp1 hp2
      go_wp2_with fail
      go_ret
      exact HK.out
    · have bl1 : (n : Int) ≤ (xs.length : Int) + (rest.length : Int) := by omega
      have hnl2 : ¬ n < xs.length := by omega
      go_enter Tryz.func77, Tryz.ntmps77
      go_wp2_with fail
      go_still_tail 12, (by kernel_rfl)
      change wpList _ _ _ _ _ w.drew
      refine wpList_clear_words (by rfl) (.tmp 29) (by rfl) b 0 n (xs.length + rest.length) (by rfl) ((xs ++ rest).map U) 67 HX.out.2.1 (by simp; omega) ?_
      intro w1 b1 k1
      have hp1 := HX.out.1.kept (w' := w.drew) ((Kept.refl NoBlk w).drew) (fun e => e)
      have hp2 := hp1.kept k1 HX.out.pb
      have c1 : w1.cell? ⟨p, 0, none⟩ = some (.slice (some ⟨b, 0, none⟩) xs.length (xs.length + rest.length)) := hp2.cellIs rfl
      have f1 := hp2.frozen 0
      have HK := Lib.hid (KEY.out _ w1 (by omega) (by omega) b1 k1)
      clear b1 k1 hp1 hp2
      go_wp2_with fail
      go_ret
      exact HK.out

set_option maxRecDepth 4000 in
theorem expand_any (p b n : Nat) (xs rest : List Nat) (w : World) (hx : NatAt w p b xs rest) (hxn : xs.length ≤ n) (hn : n ≤ 1000000) :
    Calls Tryz.prog 95 #[.pointer (some ⟨p, 0, none⟩), .int .i64 n] w (Sized p b (xs ++ noughts (n - xs.length)) (xs.length + rest.length) w) := by
  have c1 := hx.cell
  have f1 := hx.1.frozen 0
  have HX := Lib.hid hx
  have hgt : ¬ n < xs.length := by omega
  have hzl : (xs ++ noughts (n - xs.length)).length = n := by rw [List.length_append, noughts_length]; omega
  have hwd : Wd (xs ++ noughts (n - xs.length)) := hx.2.2.1.app (noughts_wd _)
  have HZL := Lib.hid hzl
  have HWD := Lib.hid hwd
  have hpl := hx.lt.1
  have hbl := hx.lt.2
  clear hzl hwd
  by_cases hlt : xs.length + rest.length < n
  · have hmk := fun w' => make_words w' n n (Nat.le_refl _) (by omega)
    have hat : At (w.alloc (.cells (noughtRow n) 67)) (some ⟨b, 0, none⟩) (xs.map U) := (hx.2.1.alloc _).at_ _ (fun j u hu => by
      rw [List.getElem?_toArray, List.map_append, List.getElem?_append_left (by have := (List.getElem?_eq_some_iff.1 hu).1; simpa using this)]; exact hu)
    obtain ⟨w2, hrun, b2, k2⟩ := run_copy_words (w.alloc (.cells (noughtRow n) 67)) 3 (some ⟨w.heap.size, 0, none⟩) (some ⟨b, 0, none⟩) n n xs.length (xs.length + rest.length) w.heap.size 0 ((List.replicate n 0).map U) 67 (Blk.new w _ _) xs hat rfl xs.length (by omega) (fun _ => rfl) (by simp; omega)
    have hp2 := (hx.1.alloc (.cells (noughtRow n) 67)).kept k2 (Nat.ne_of_lt hpl)
    have c2 : w2.cell? ⟨p, 0, none⟩ = some (.slice (some ⟨b, 0, none⟩) xs.length (xs.length + rest.length)) := hp2.cellIs rfl
    have f2 := hp2.frozen 0
    have hp3 := hp2.set_ 0 (.slice (some ⟨w.heap.size, 0, none⟩) n n)
    have hb3 := b2.far (p := ⟨p, 0, none⟩) (Nat.ne_of_gt hpl) (.slice (some ⟨w.heap.size, 0, none⟩) n n)
    have hk3 : Kept (Both p b) w (w2.setCell ⟨p, 0, none⟩ (.slice (some ⟨w.heap.size, 0, none⟩) n n)) :=
      (((Kept.refl (Both p b) w).alloc _).fresh k2 (Nat.le_refl _)).setCell _ _ (fun _ => .inl rfl)
    rw [List.take_of_length_le (Nat.le_refl _)] at hb3
    have hrow : splice ((List.replicate n 0).map U) 0 (xs.map U) = ((xs ++ noughts (n - xs.length)) ++ []).map U := by
      simp [splice, noughts]
    rw [hrow] at hb3
    have HP3 := Lib.hid hp3
    have HB3 := Lib.hid hb3
    have HK3 := Lib.hid hk3
    clear hx hat b2 k2 hp2 hp3 hb3 hk3 hrow
    go_enter Tryz.func95, Tryz.ntmps95
    go_wp2_with fail
    go_ret
    refine ⟨rfl, w.heap.size, [], ⟨?_, HB3.out, HWD.out, Wd.nil⟩, .inr ⟨Nat.le_refl _, by rw [HZL.out]; exact hlt⟩, by rw [HZL.out]; simp; omega, HK3.out⟩
    rw [HZL.out]
    exact HP3.out
  · have key : ∀ (off : Nat) (w0 w1 : World), (n - xs.length = 0 ∨ off = xs.length) → w0.heap = w.heap → Kept NoBlk w w0 → Blk w1 b 67 (splice ((xs ++ rest).map U) off ((List.replicate (n - xs.length) 0).map U)).toArray → Kept (OneBlk b) w0 w1 →
        Sized p b (xs ++ noughts (n - xs.length)) (xs.length + rest.length) w (.returned (.pointer (some ⟨p, 0, none⟩))) (w1.setCell ⟨p, 0, none⟩ (.slice (some ⟨b, 0, none⟩) n (xs.length + rest.length))) := by
      intro off w0 w1 ho _ k0 b1 k1
      have hp1 := HX.out.1.kept k0 (fun e => e)
      have hp2 := (hp1.kept k1 HX.out.pb).set_ 0 (.slice (some ⟨b, 0, none⟩) n (xs.length + rest.length))
      have hb2 := b1.far (p := ⟨p, 0, none⟩) (fun e => HX.out.pb e.symm) (.slice (some ⟨b, 0, none⟩) n (xs.length + rest.length))
      have hrow : splice ((xs ++ rest).map U) off ((List.replicate (n - xs.length) 0).map U) = ((xs ++ noughts (n - xs.length)) ++ rest.drop (n - xs.length)).map U := by
        rcases ho with h0 | rfl
        · rw [h0]; simp [splice, noughts]
        · unfold splice noughts
          rw [List.length_map, List.length_replicate, ← List.map_take, ← List.map_drop, List.take_left, ← List.map_append, ← List.map_append, List.drop_append, List.drop_eq_nil_of_le (by omega)]
          rw [List.nil_append, Nat.add_sub_cancel_left, List.append_assoc]
      rw [hrow] at hb2
      have hlen : (rest.drop (n - xs.length)).length = xs.length + rest.length - n := by rw [List.length_drop]; omega
      refine ⟨rfl, b, rest.drop (n - xs.length), ⟨?_, hb2, HWD.out, HX.out.2.2.2.drop _⟩, .inl ⟨rfl, by rw [hlen, HZL.out]; omega⟩, by rw [hlen, HZL.out]; omega, ?_⟩
      · rw [hlen, HZL.out, show n + (xs.length + rest.length - n) = xs.length + rest.length by omega]; exact hp2
      · exact (((k0.mono (S' := Both p b) (fun _ _ e => e.elim))).step k1 (fun _ _ e => .inr e)).setCell _ _ (fun _ => .inl rfl)
    have KEY := Lib.hid key
    clear hx key
    have bl1 : (n : Int) ≤ (xs.length : Int) + (rest.length : Int) := by omega
    have bl2 : (xs.length : Int) ≤ (n : Int) := by omega
    have hA : ∀ nq, ∃ w1, (Builtin.clear_ #[89] 0 #[.slice (some ⟨b, xs.length, none⟩) (n - xs.length) rest.length]).run Tryz.prog (w.drewN nq) = .ok (.tuple #[]) w1 ∧ Blk w1 b 67 (splice ((xs ++ rest).map U) xs.length ((List.replicate (n - xs.length) 0).map U)).toArray ∧ Kept (OneBlk b) (w.drewN nq) w1 :=
      fun nq => run_clear_words (w.drewN nq) 0 b xs.length (n - xs.length) rest.length ((xs ++ rest).map U) 67 HX.out.2.1 (by simp; omega)
    have hB : ∀ nq, ∃ w1, (Builtin.clear_ #[89] 0 #[.slice (some ⟨b, 0, none⟩) (n - xs.length) rest.length]).run Tryz.prog (w.drewN nq) = .ok (.tuple #[]) w1 ∧ Blk w1 b 67 (splice ((xs ++ rest).map U) 0 ((List.replicate (n - xs.length) 0).map U)).toArray ∧ Kept (OneBlk b) (w.drewN nq) w1 :=
      fun nq => run_clear_words (w.drewN nq) 0 b 0 (n - xs.length) rest.length ((xs ++ rest).map U) 67 HX.out.2.1 (by simp; omega)
    have HA := Lib.hid hA
    have HB := Lib.hid hB
    clear hA hB
    have fin : ∀ (off nq : Nat) (w1 : World), (n - xs.length = 0 ∨ off = xs.length) → Blk w1 b 67 (splice ((xs ++ rest).map U) off ((List.replicate (n - xs.length) 0).map U)).toArray → Kept (OneBlk b) (w.drewN nq) w1 →
        w1.cell? ⟨p, 0, none⟩ = some (.slice (some ⟨b, 0, none⟩) xs.length (xs.length + rest.length)) ∧ w1.frozen? ⟨p, 0, none⟩ = false := by
      intro off nq w1 _ _ k1
      have hp2 := (HX.out.1.drewN nq).kept k1 HX.out.pb
      exact ⟨hp2.cellIs rfl, hp2.frozen 0⟩
    have FIN := Lib.hid fin
    clear fin
    by_cases hr : xs.length + rest.length = xs.length
    · obtain rfl : rest = [] := List.eq_nil_of_length_eq_zero (by omega)
      clear hr
      go_enter Tryz.func95, Tryz.ntmps95
      go_wp2_with fail
      go_quiet (fail)
      obtain ⟨w1, hrun, b1, k1⟩ := HB.out nq
      obtain ⟨c1, f1⟩ := FIN.out _ nq w1 (.inl (by omega)) b1 k1
      have HK := Lib.hid (KEY.out _ _ w1 (.inl (by omega)) (by rfl) ((Kept.refl _ _).drewN nq) b1 k1)
      clear b1 k1
      simp only [List.length_nil, Nat.add_zero] at hrun c1
      go_wp2_with fail
      go_ret
      exact HK.out
    · go_enter Tryz.func95, Tryz.ntmps95
      go_wp2_with fail
      go_quiet (fail)
      obtain ⟨w1, hrun, b1, k1⟩ := HA.out nq
      obtain ⟨c1, f1⟩ := FIN.out _ nq w1 (.inr rfl) b1 k1
      have HK := Lib.hid (KEY.out _ _ w1 (.inr rfl) (by rfl) ((Kept.refl _ _).drewN nq) b1 k1)
      clear b1 k1
      go_wp2_with fail
      go_ret
      exact HK.out

end Go.Proofs.YtdmpiecdpdknaaaGreatDoor
namespace Go.Proofs.YtdmpiecdpdknaaaGreatDoor
open Go.RowKit

theorem NatAt.drew {w : World} {p b : Nat} {xs rest : List Nat} (h : NatAt w p b xs rest) : NatAt w.drew p b xs rest := h
theorem NatAt.drewN {w : World} {p b : Nat} {xs rest : List Nat} (h : NatAt w p b xs rest) (n : Nat) : NatAt (w.drewN n) p b xs rest := h
theorem NatAt.words {w : World} {p b : Nat} {xs rest : List Nat} (h : NatAt w p b xs rest) : At w (some ⟨b, 0, none⟩) (xs.map U) := h.2.1.at_ _ (fun j u hu => by
  rw [List.getElem?_toArray, List.map_append, List.getElem?_append_left (by have := (List.getElem?_eq_some_iff.1 hu).1; simpa using this)]; exact hu)
/-- The words of one number are no header of another. -/
theorem NatAt.cross {w : World} {p b p' b' : Nat} {xs rest xs' rest' : List Nat} (h : NatAt w p b xs rest) (h' : NatAt w p' b' xs' rest') : p ≠ b' := h.1.ne_ h'.2.1 (by decide)
theorem NatAt.away {w w' : World} {p b p' b' : Nat} {xs rest xs' rest' : List Nat} (h : NatAt w p' b' xs' rest') (hx : NatAt w p b xs rest) (hp : p' ≠ p) (hb : b' ≠ b) (k : Kept (Both p b) w w') : NatAt w' p' b' xs' rest' :=
  h.kept k (fun e => e.elim hp (h.cross hx)) (fun e => e.elim (fun e => hx.cross h e.symm) hb)
theorem NatAt.away1 {w w' : World} {p b p' b' : Nat} {xs rest xs' rest' : List Nat} (h : NatAt w p' b' xs' rest') (hx : NatAt w p b xs rest) (hb : b' ≠ b) (k : Kept (OneBlk b) w w') : NatAt w' p' b' xs' rest' :=
  h.kept k (h.cross hx) hb

set_option maxRecDepth 4000 in
theorem set_any (p b p' b' : Nat) (xs rest ys rest' : List Nat) (w : World) (hx : NatAt w p b xs rest) (hy : NatAt w p' b' ys rest') (hp : p' ≠ p) (hb : b' ≠ b) (hn : ys.length ≤ 1000000) :
    Calls Tryz.prog 70 #[.pointer (some ⟨p, 0, none⟩), .pointer (some ⟨p', 0, none⟩)] w (Sized p b ys (xs.length + rest.length) w) := by
  have c2 := hy.cell
  have hr := reset_any p b ys.length xs rest w hx hn
  have HR := Lib.hid hr
  have HX := Lib.hid hx
  have HY := Lib.hid hy
  clear hr hx hy
  go_enter Tryz.func70, Tryz.ntmps70
  go_wp2_with fail
  refine HR.out.mono ?_
  rintro e w1 ⟨rfl, b1, rest1, h1, h2, h3, h4⟩
  have hy1 := HY.out.away HX.out hp hb h4
  have hbn : b' ≠ b1 := by have := HY.out.lt.2; omega
  have c3 := h1.cell
  rw [noughts_length] at c3 h3
  have c4 := hy1.cell
  obtain ⟨w2, hrun, r2, k2⟩ := run_copy_words w1.drew 3 (some ⟨b1, 0, none⟩) (some ⟨b', 0, none⟩) ys.length (ys.length + rest1.length) ys.length (ys.length + rest'.length) b1 0 ((noughts ys.length ++ rest1).map U) 67 h1.2.1 ys hy1.drew.words rfl ys.length (by omega) (fun _ => rfl) (by simp [noughts])
  have hrow : splice ((noughts ys.length ++ rest1).map U) 0 ((ys.take ys.length).map U) = (ys ++ rest1).map U := by
    rw [List.take_of_length_le (Nat.le_refl _)]
    unfold splice
    rw [List.map_append, List.length_map, List.take_zero, List.nil_append, Nat.zero_add, List.drop_append_of_le_length (by simp [noughts]), List.drop_eq_nil_of_le (by simp [noughts]), List.nil_append, List.map_append]
  rw [hrow] at r2
  have hhd := h1.1
  rw [noughts_length] at hhd
  have hfin : Sized p b ys (xs.length + rest.length) w (.returned (.pointer (some ⟨p, 0, none⟩))) w2 :=
    ⟨rfl, b1, rest1, ⟨(hhd.drew).kept k2 h1.pb, r2, HY.out.2.2.1, h1.2.2.2⟩, h2.imp (fun e => ⟨e.1, by have := e.2; rw [noughts_length] at this; exact this⟩) (fun e => ⟨e.1, by have := e.2; rw [noughts_length] at this; exact this⟩), h3, by
      refine (h4.drew).step k2 (fun i hi e => ?_)
      unfold OneBlk at e
      rcases h2 with h2 | h2
      · exact .inr (e.trans h2.1)
      · omega⟩
  have FIN := Lib.hid hfin
  clear h1 h2 h4 hy1 r2 k2 hrow hhd hfin HR c2
  go_wp2_with fail
  go_still_tail 8, (by kernel_rfl)
  change wpList _ _ _ _ _ w1.drew
  go_wp2_with fail
  go_ret
  exact FIN.out

/-- A modulus in memory: block q; its number in blocks pn, bn. -/
def ModAt (w : World) (q pn bn : Nat) (ms mr : List Nat) (od : Bool) (mi : Nat) (rv : Value) : Prop :=
  Blk w q 97 #[.pointer (some ⟨pn, 0, none⟩), .bool od, .int .u64 mi, rv] ∧ NatAt w pn bn ms mr

section
variable {w w' : World} {S : Nat → Prop} {q pn bn : Nat} {ms mr : List Nat} {od : Bool} {mi : Nat} {rv : Value}
theorem ModAt.kept (h : ModAt w q pn bn ms mr od mi rv) (k : Kept S w w') (h1 : ¬ S q) (h2 : ¬ S pn) (h3 : ¬ S bn) : ModAt w' q pn bn ms mr od mi rv := ⟨h.1.kept k h1, h.2.kept k h2 h3⟩
theorem ModAt.still (h : ModAt w q pn bn ms mr od mi rv) (k : Kept NoBlk w w') : ModAt w' q pn bn ms mr od mi rv := h.kept k (fun e => e) (fun e => e) (fun e => e)
theorem ModAt.away1 {p b : Nat} {xs rest : List Nat} (h : ModAt w q pn bn ms mr od mi rv) (hx : NatAt w p b xs rest) (hb : bn ≠ b) (k : Kept (OneBlk b) w w') : ModAt w' q pn bn ms mr od mi rv :=
  ⟨h.1.kept k (h.1.ne_ hx.2.1 (by decide)), h.2.away1 hx hb k⟩
theorem ModAt.away {p b : Nat} {xs rest : List Nat} (h : ModAt w q pn bn ms mr od mi rv) (hx : NatAt w p b xs rest) (hp : pn ≠ p) (hb : bn ≠ b) (k : Kept (Both p b) w w') : ModAt w' q pn bn ms mr od mi rv :=
  ⟨h.1.kept k (fun e => e.elim (h.1.ne_ hx.1 (by decide)) (h.1.ne_ hx.2.1 (by decide))), h.2.away hx hp hb k⟩
theorem ModAt.ptr (h : ModAt w q pn bn ms mr od mi rv) : w.cell? ⟨q, 0, none⟩ = some (.pointer (some ⟨pn, 0, none⟩)) := h.1.cellIs rfl
end

theorem resetFor_any (p b q pn bn : Nat) (xs rest ms mr : List Nat) (od : Bool) (mi : Nat) (rv : Value) (w : World) (hx : NatAt w p b xs rest) (hm : ModAt w q pn bn ms mr od mi rv) (hn : ms.length ≤ 1000000) :
    Calls Tryz.prog 53 #[.pointer (some ⟨p, 0, none⟩), .pointer (some ⟨q, 0, none⟩)] w (Sized p b (noughts ms.length) (xs.length + rest.length) w) := by
  have c1 := hm.ptr
  have c2 := hm.2.cell
  have HR := Lib.hid (reset_any p b ms.length xs rest w hx hn)
  clear hx hm
  go_enter Tryz.func53, Tryz.ntmps53
  go_wp2_with fail
  refine HR.out.mono ?_
  rintro e w1 ⟨rfl, h⟩
  have H := Lib.hid h
  clear h HR
  go_wp2_with fail
  go_ret
  exact ⟨rfl, H.out⟩

theorem expandFor_any (p b q pn bn : Nat) (xs rest ms mr : List Nat) (od : Bool) (mi : Nat) (rv : Value) (w : World) (hx : NatAt w p b xs rest) (hm : ModAt w q pn bn ms mr od mi rv) (hl : xs.length ≤ ms.length) (hn : ms.length ≤ 1000000) :
    Calls Tryz.prog 67 #[.pointer (some ⟨p, 0, none⟩), .pointer (some ⟨q, 0, none⟩)] w (Sized p b (xs ++ noughts (ms.length - xs.length)) (xs.length + rest.length) w) := by
  have c1 := hm.ptr
  have c2 := hm.2.cell
  have HR := Lib.hid (expand_any p b ms.length xs rest w hx hl hn)
  clear hx hm
  go_enter Tryz.func67, Tryz.ntmps67
  go_wp2_with fail
  refine HR.out.mono ?_
  rintro e w1 ⟨rfl, h⟩
  have H := Lib.hid h
  clear h HR
  go_wp2_with fail
  go_ret
  exact ⟨rfl, H.out⟩

/-- A new number of its own: what a call that makes one leaves. -/
def Fresh (xs : List Nat) (w : World) (e : Ending) (w' : World) : Prop :=
  ∃ (p b : Nat) (rest : List Nat), e = .returned (.pointer (some ⟨p, 0, none⟩)) ∧ w.heap.size ≤ p ∧ w.heap.size ≤ b ∧ NatAt w' p b xs rest ∧ xs.length + rest.length ≤ max xs.length 32 ∧ (xs.length ≤ 32 → p = w.heap.size + 1 ∧ b = w.heap.size ∧ xs.length + rest.length = 32) ∧ Kept NoBlk w w'

theorem modNat_any (q pn bn : Nat) (ms mr : List Nat) (od : Bool) (mi : Nat) (rv : Value) (w : World) (hm : ModAt w q pn bn ms mr od mi rv) (hn : ms.length ≤ 1000000) :
    Calls Tryz.prog 57 #[.pointer (some ⟨q, 0, none⟩)] w (Fresh ms w) := by
  have HM := Lib.hid hm
  clear hm
  go_enter Tryz.func57, Tryz.ntmps57
  go_wp2_with fail
  refine (newNat_any w).mono ?_
  rintro e w1 ⟨rfl, h1, k1⟩
  have hm1 := HM.out.still k1
  have c1 := hm1.ptr
  have hs := set_any (w.heap.size + 1) w.heap.size pn bn [] (noughts 32) ms mr w1 h1 hm1.2 (by have := HM.out.2.lt; omega) (by have := HM.out.2.lt; omega) hn
  have HS := Lib.hid hs
  have K1 := Lib.hid k1
  clear h1 k1 hm1 hs
  go_wp2_with fail
  refine HS.out.mono ?_
  rintro e w2 ⟨rfl, b', rest', h1, h2, h3, h4⟩
  have hk : Kept NoBlk w w2 := K1.out.step h4 (fun i hi e => by unfold Both at e; omega)
  have hfin : Fresh ms w (.returned (.pointer (some ⟨w.heap.size + 1, 0, none⟩))) w2 := ⟨_, b', rest', rfl, by omega, by have := K1.out.size; omega, h1, by simpa [noughts] using h3, by intro h; rcases h2 with h2 | h2; exact ⟨rfl, h2.1, by simpa [noughts] using h2.2⟩; (have := h2.2; simp [noughts] at this; omega), hk⟩
  have FIN := Lib.hid hfin
  clear h1 h2 h3 h4 hk hfin HS
  go_wp2_with fail
  go_ret
  exact FIN.out

end Go.Proofs.YtdmpiecdpdknaaaGreatDoor
namespace Go.Proofs.YtdmpiecdpdknaaaGreatDoor
open Go.RowKit

/-- Where a step of its own ends: only block b has turned, new ones apart. -/
theorem kept_one {w w1 w2 w3 : World} {b b' : Nat} (h1 : Kept NoBlk w w1) (h2 : Kept (OneBlk b') w1 w2) (hb : w.heap.size ≤ b') (h3 : Kept (OneBlk b) w2 w3) : Kept (OneBlk b) w w3 :=
  ((h1.fresh h2 hb).mono (S' := OneBlk b) (fun _ _ e => e.elim)).trans h3

theorem maybeSub_any (p b q pn bn c : Nat) (xs rest ms mr : List Nat) (od : Bool) (mi : Nat) (rv : Value) (w : World) (hc : c ≤ 1) (hx : NatAt w p b xs rest) (hm : ModAt w q pn bn ms mr od mi rv) (hl : xs.length = ms.length) (hn : ms.length + mr.length ≤ 1000000) :
    Calls Tryz.prog 96 #[.pointer (some ⟨p, 0, none⟩), .int .u64 c, .pointer (some ⟨q, 0, none⟩)] w fun e w' =>
      e = .returned (.tuple #[]) ∧ ∃ zs : List Nat, zs.length = xs.length ∧ NatAt w' p b zs rest ∧ Kept (OneBlk b) w w' ∧
        ((val xs < val ms ∧ c = 0 ∧ zs = xs) ∨ (¬ (val xs < val ms ∧ c = 0) ∧ ∃ k ≤ 1, (k = 0 ↔ val ms ≤ val xs) ∧ val zs + val ms = val xs + Pw xs.length * k)) := by
  have HX := Lib.hid hx
  have HM := Lib.hid hm
  have hpl := hx.lt
  have hml := hm.2.lt
  clear hx hm
  go_enter Tryz.func96, Tryz.ntmps96
  go_wp2_with fail
  refine (newNat_any w).mono ?_
  rintro e w1 ⟨rfl, h1, k1⟩
  have hs1 := k1.size
  have hs := set_any (w.heap.size + 1) w.heap.size p b [] (noughts 32) xs rest w1 h1 (HX.out.still k1) (by omega) (by omega) (by omega)
  have HS := Lib.hid hs
  have K1 := Lib.hid k1
  clear h1 k1 hs
  go_wp2_with fail
  refine HS.out.mono ?_
  rintro e w2 ⟨rfl, b2, rest2, h1, h2, h3, h4⟩
  have hk : Kept NoBlk w w2 := K1.out.step h4 (fun i hi e => by unfold Both at e; omega)
  have hb2 : w.heap.size ≤ b2 := by omega
  have hm2 := HM.out.still hk
  have hx2 := HX.out.still hk
  have hsub := nat_sub (w.heap.size + 1) b2 pn bn xs rest2 ms mr w2 h1 hm2.2 hl (.inl (by omega)) hn
  have hc3 := hm2.ptr
  have HSUB := Lib.hid hsub
  have HK := Lib.hid hk
  have H1 := Lib.hid h1
  have HX2 := Lib.hid hx2
  have h3b : xs.length + rest2.length ≤ 1000000 := by simp [noughts] at h3; omega
  clear h1 h2 h3 h4 hk hm2 hx2 hsub HS K1 hs1
  go_wp2_with fail
  refine HSUB.out.mono ?_
  rintro e w3 ⟨zs, k, rfl, hk1, hz, hv, h1, h2⟩
  have hkb : k = bitN (decide (val xs < val ms)) ∧ (k = 0 ↔ val ms ≤ val xs) := by
    have a1 := val_lt zs h1.2.2.1
    rw [hz] at a1
    have : k = 0 ∨ k = 1 := by omega
    rcases this with rfl | rfl
    · have : ¬ val xs < val ms := by omega
      rw [decide_eq_false this]
      exact ⟨rfl, by omega⟩
    · have : val xs < val ms := by omega
      rw [decide_eq_true this]
      exact ⟨rfl, by omega⟩
  obtain ⟨hk2, hk3⟩ := hkb
  have hnot := not_is k hk1 w3
  have hcb : c = bitN (decide (c = 1)) := by
    have : c = 0 ∨ c = 1 := by omega
    rcases this with rfl | rfl <;> rfl
  have hkn : 1 - k = bitN (!decide (val xs < val ms)) := by rw [hk2]; cases decide (val xs < val ms) <;> rfl
  have hor := bitN_or (!decide (val xs < val ms)) (decide (c = 1))
  rw [← hcb] at hor
  rw [hkn] at hnot
  obtain ⟨d, hd⟩ : ∃ d, bitN (!decide (val xs < val ms) || decide (c = 1)) = d := ⟨_, rfl⟩
  have hdl : d ≤ 1 := by rw [← hd]; exact bitN_le _
  rw [hd] at hor
  have hx3 := HX2.out.away1 H1.out (by omega) h2
  have has := assign_any p b (w.heap.size + 1) b2 d xs rest zs rest2 w3 hdl hx3 h1 hz.symm (.inl (by omega)) (by omega)
  have hkk := HK.out.fresh h2 hb2
  have HN := Lib.hid hnot
  have HAS := Lib.hid has
  have HKK := Lib.hid hkk
  have HV := Lib.hid hv
  have HD := Lib.hid hd
  have HK3 := Lib.hid hk3
  have HZ := Lib.hid hz
  clear h1 h2 hk2 hk3 hnot hkn hcb hd hx3 has hkk hv HSUB HK H1 hz
  go_wp2_with fail
  refine HN.out.mono ?_
  rintro e w' ⟨rfl, rfl⟩
  go_wp2_with fail
  refine HAS.out.mono ?_
  rintro e w4 ⟨rfl, h1, h2⟩
  have hfin : ∃ zs : List Nat, zs.length = xs.length ∧ NatAt w4 p b zs rest ∧ Kept (OneBlk b) w w4 ∧
        ((val xs < val ms ∧ c = 0 ∧ zs = xs) ∨ (¬ (val xs < val ms ∧ c = 0) ∧ ∃ k ≤ 1, (k = 0 ↔ val ms ≤ val xs) ∧ val zs + val ms = val xs + Pw xs.length * k)) := by
    have hkept : Kept (OneBlk b) w w4 := (HKK.out.mono (S' := OneBlk b) (fun _ _ e => e.elim)).trans h2
    by_cases h : val xs < val ms ∧ c = 0
    · have e0 : d = 0 := by rw [← HD.out, decide_eq_true h.1, decide_eq_false (by omega)]; rfl
      rw [e0, sel_zero] at h1
      exact ⟨xs, rfl, h1, hkept, .inl ⟨h.1, h.2, rfl⟩⟩
    · have e1 : d = 1 := by
        rw [← HD.out]
        by_cases h' : val xs < val ms
        · have : c = 1 := by omega
          rw [decide_eq_true h', decide_eq_true this]; rfl
        · rw [decide_eq_false h']; rfl
      rw [e1, sel_one] at h1
      exact ⟨zs, HZ.out, h1, hkept, .inr ⟨h, k, hk1, HK3.out, HV.out⟩⟩
  have FIN := Lib.hid hfin
  clear hfin h1 h2 HAS HN
  go_wp2_with fail
  refine bodyPost_end (results_none rfl _ _ _) rfl ?_
  exact ⟨rfl, FIN.out⟩

/-- What lies below twice the modulus is brought below it. -/
theorem maybeSub_mod (p b q pn bn c : Nat) (xs rest ms mr : List Nat) (od : Bool) (mi : Nat) (rv : Value) (w : World) (hc : c ≤ 1) (hx : NatAt w p b xs rest) (hm : ModAt w q pn bn ms mr od mi rv) (hl : xs.length = ms.length) (hn : ms.length + mr.length ≤ 1000000)
    (ht : val xs + Pw xs.length * c < 2 * val ms) :
    Calls Tryz.prog 96 #[.pointer (some ⟨p, 0, none⟩), .int .u64 c, .pointer (some ⟨q, 0, none⟩)] w fun e w' =>
      e = .returned (.tuple #[]) ∧ ∃ zs : List Nat, zs.length = xs.length ∧ NatAt w' p b zs rest ∧ Kept (OneBlk b) w w' ∧ val zs = (val xs + Pw xs.length * c) % val ms := by
  have hmv := val_lt ms hm.2.2.2.1
  refine (maybeSub_any p b q pn bn c xs rest ms mr od mi rv w hc hx hm hl hn).mono ?_
  rintro e w' ⟨rfl, zs, h1, h2, h3, h4⟩
  refine ⟨rfl, zs, h1, h2, h3, ?_⟩
  have hcc : c = 0 ∨ c = 1 := by omega
  rw [hl] at h4 ht ⊢
  rcases h4 with ⟨a, rfl, rfl⟩ | ⟨a, k, k1, k2, k3⟩
  · rw [Nat.mul_zero, Nat.add_zero, Nat.mod_eq_of_lt a]
  · have hk : k = 0 ∨ k = 1 := by omega
    have hs : val zs + val ms = val xs + Pw ms.length * c := by
      rcases hcc with rfl | rfl <;> rcases hk with rfl | rfl <;> omega
    rw [← hs, Nat.add_mod_right, Nat.mod_eq_of_lt (by omega)]

theorem modAdd_any (p b p' b' q pn bn : Nat) (xs rest ys rest' ms mr : List Nat) (od : Bool) (mi : Nat) (rv : Value) (w : World) (hx : NatAt w p b xs rest) (hy : NatAt w p' b' ys rest') (hm : ModAt w q pn bn ms mr od mi rv) (hb : b ≠ b' ∨ b = b' ∧ xs = ys) (hbn : bn ≠ b)
    (hl : xs.length = ms.length) (hl' : ys.length = ms.length) (hn : ms.length + mr.length ≤ 1000000) (hn' : ys.length + rest'.length ≤ 1000000) (hxm : val xs < val ms) (hym : val ys < val ms) :
    Calls Tryz.prog 68 #[.pointer (some ⟨p, 0, none⟩), .pointer (some ⟨p', 0, none⟩), .pointer (some ⟨q, 0, none⟩)] w fun e w' =>
      e = .returned (.pointer (some ⟨p, 0, none⟩)) ∧ ∃ zs : List Nat, zs.length = xs.length ∧ NatAt w' p b zs rest ∧ Kept (OneBlk b) w w' ∧ val zs = (val xs + val ys) % val ms := by
  have ha := nat_add p b p' b' xs rest ys rest' w hx hy (hl.trans hl'.symm) hb hn'
  have HA := Lib.hid ha
  have HM := Lib.hid hm
  have HX := Lib.hid hx
  have HL := Lib.hid hl
  clear ha hx hy hm hb hl hl'
  go_enter Tryz.func68, Tryz.ntmps68
  go_wp2_with fail
  refine HA.out.mono ?_
  rintro e w1 ⟨zs, c, rfl, hc, hz, hv, h1, k1⟩
  have hm1 := HM.out.away1 HX.out hbn k1
  have hms := maybeSub_mod p b q pn bn c zs rest ms mr od mi rv w1 hc h1 hm1 (hz.trans HL.out) hn (by rw [hz]; omega)
  rw [hz, hv] at hms
  have HMS := Lib.hid hms
  have K1 := Lib.hid k1
  clear hms k1 h1 hm1 hv HA
  go_wp2_with fail
  refine HMS.out.mono ?_
  rintro e w2 ⟨rfl, us, u1, u2, u3, u4⟩
  have hfin : ∃ zs : List Nat, zs.length = xs.length ∧ NatAt w2 p b zs rest ∧ Kept (OneBlk b) w w2 ∧ val zs = (val xs + val ys) % val ms := ⟨us, u1, u2, K1.out.trans u3, u4⟩
  have FIN := Lib.hid hfin
  clear hfin u1 u2 u3 u4 HMS hz
  go_wp2_with fail
  go_ret
  exact ⟨rfl, FIN.out⟩

theorem modSub_any (p b p' b' q pn bn : Nat) (xs rest ys rest' ms mr : List Nat) (od : Bool) (mi : Nat) (rv : Value) (w : World) (hx : NatAt w p b xs rest) (hy : NatAt w p' b' ys rest') (hm : ModAt w q pn bn ms mr od mi rv) (hb : b ≠ b' ∨ b = b' ∧ xs = ys) (hbn : bn ≠ b)
    (hl : xs.length = ms.length) (hl' : ys.length = ms.length) (hn : ms.length + mr.length ≤ 1000000) (hn' : ys.length + rest'.length ≤ 1000000) (hxm : val xs < val ms) (hym : val ys < val ms) :
    Calls Tryz.prog 65 #[.pointer (some ⟨p, 0, none⟩), .pointer (some ⟨p', 0, none⟩), .pointer (some ⟨q, 0, none⟩)] w fun e w' =>
      e = .returned (.pointer (some ⟨p, 0, none⟩)) ∧ ∃ zs : List Nat, zs.length = xs.length ∧ NatAt w' p b zs rest ∧ Kept (OneBlk b) w w' ∧ val zs = (val xs + val ms - val ys) % val ms := by
  have ha := nat_sub p b p' b' xs rest ys rest' w hx hy (hl.trans hl'.symm) hb hn'
  have hmv := val_lt ms hm.2.2.2.1
  have HA := Lib.hid ha
  have HM := Lib.hid hm
  have HX := Lib.hid hx
  have HL := Lib.hid hl
  have HMV := Lib.hid hmv
  have hpl := hx.lt
  have hml := hm.2.lt
  clear ha hx hy hm hb hl hl' hmv
  go_enter Tryz.func65, Tryz.ntmps65
  go_wp2_with fail
  refine HA.out.mono ?_
  rintro e w1 ⟨zs, c, rfl, hc, hz, hv, h1, k1⟩
  have hm1 := HM.out.away1 HX.out hbn k1
  have H1 := Lib.hid h1
  have K1 := Lib.hid k1
  have HM1 := Lib.hid hm1
  have HV := Lib.hid hv
  have HZ := Lib.hid hz
  have hs1 := k1.size
  clear h1 k1 hm1 hv hz HA
  go_wp2_with fail
  refine (newNat_any w1).mono ?_
  rintro e w2 ⟨rfl, h2, k2⟩
  have hs2 := k2.size
  have hz := HZ.out
  have hll := HL.out
  have hst := set_any (w1.heap.size + 1) w1.heap.size p b [] (noughts 32) zs rest w2 h2 (H1.out.still k2) (by omega) (by omega) (by omega)
  have HST := Lib.hid hst
  have K2 := Lib.hid k2
  clear h2 k2 hst hz hll
  go_wp2_with fail
  refine HST.out.mono ?_
  rintro e w3 ⟨rfl, b3, rest3, h3, h4, h5, h6⟩
  have hk : Kept NoBlk w1 w3 := K2.out.step h6 (fun i hi e => by unfold Both at e; omega)
  have hb3 : w1.heap.size ≤ b3 := by omega
  have hm3 := HM1.out.still hk
  have hx3 := H1.out.still hk
  have hadd := nat_add (w1.heap.size + 1) b3 pn bn zs rest3 ms mr w3 h3 hm3.2 (HZ.out.trans HL.out) (.inl (by omega)) hn
  have hc3 := hm3.ptr
  have HADD := Lib.hid hadd
  have HK := Lib.hid hk
  have H3 := Lib.hid h3
  have HX3 := Lib.hid hx3
  have h5b : zs.length + rest3.length ≤ 1000000 := by have := HZ.out; have := HL.out; simp [noughts] at h5; omega
  clear h3 h4 h5 h6 hk hm3 hx3 hadd HST K2 hs2
  go_wp2_with fail
  refine HADD.out.mono ?_
  rintro e w4 ⟨us, d, rfl, hd1, hu, hv2, h4, k4⟩
  have hx4 := HX3.out.away1 H3.out (by omega) k4
  have has := assign_any p b (w1.heap.size + 1) b3 c zs rest us rest3 w4 hc hx4 h4 hu.symm (.inl (by omega)) (by omega)
  have hkk := HK.out.fresh k4 hb3
  have HAS := Lib.hid has
  have HKK := Lib.hid hkk
  have HV2 := Lib.hid hv2
  have HU := Lib.hid hu
  have HW := Lib.hid h4.2.2.1
  clear has hkk hv2 hu h4 hx4 k4 HADD HK H3 HX3
  go_wp2_with fail
  refine HAS.out.mono ?_
  rintro e w5 ⟨rfl, h5, k5⟩
  have hkept : Kept (OneBlk b) w w5 := K1.out.trans ((HKK.out.mono (S' := OneBlk b) (fun _ _ e => e.elim)).trans k5)
  have hfin : ∃ zs : List Nat, zs.length = xs.length ∧ NatAt w5 p b zs rest ∧ Kept (OneBlk b) w w5 ∧ val zs = (val xs + val ms - val ys) % val ms := by
    have hv := HV.out
    have hv2 := HV2.out
    have hmv := HMV.out
    have hz := HZ.out
    have hu := HU.out
    have hl := HL.out
    have hzl := val_lt zs H1.out.2.2.1
    have hul := val_lt us HW.out
    rw [hu, hz, hl] at hul
    rw [hz, hl] at hzl hv2
    rw [hl] at hv
    have hcc : c = 0 ∨ c = 1 := by omega
    have hdd : d = 0 ∨ d = 1 := by omega
    rcases hcc with rfl | rfl
    · rw [sel_zero] at h5
      refine ⟨zs, hz, h5, hkept, ?_⟩
      rw [show val xs + val ms - val ys = val zs + val ms by omega, Nat.add_mod_right, Nat.mod_eq_of_lt (by omega)]
    · rw [sel_one] at h5
      refine ⟨us, hu.trans hz, h5, hkept, ?_⟩
      rw [show val xs + val ms - val ys = val us by rcases hdd with rfl | rfl <;> omega, Nat.mod_eq_of_lt (by rcases hdd with rfl | rfl <;> omega)]
  have FIN := Lib.hid hfin
  clear hfin h5 k5 hkept HAS
  go_wp2_with fail
  go_ret
  exact ⟨rfl, FIN.out⟩

theorem NatAt.setLimb {w : World} {p b : Nat} {xs rest : List Nat} (h : NatAt w p b xs rest) (i x : Nat) (hi : i < xs.length) (hx : x < 18446744073709551616) : NatAt (w.setCell ⟨b, i, none⟩ (.int .u64 (x : Int))) p b (xs.set i x) rest := by
  refine ⟨?_, ?_, h.2.2.1.set i x hx, h.2.2.2⟩
  · rw [List.length_set]; exact h.1.far h.pb _
  · have h1 := h.2.1.set_ i (.int .u64 (x : Int))
    rw [List.setIfInBounds_toArray, List.map_append, List.set_append_left _ _ (by simpa using hi)] at h1
    rw [List.map_append, List.map_set]
    exact h1
theorem val_one (n : Nat) (h : 1 ≤ n) : val ((noughts n).set 0 1) = 1 := by
  obtain ⟨m, rfl⟩ : ∃ m, n = m + 1 := ⟨n - 1, by omega⟩
  unfold noughts
  rw [List.replicate_succ, List.set_cons_zero, val, val_replicate_zero]

theorem subOne_any (p b q pn bn : Nat) (xs rest ms mr : List Nat) (od : Bool) (mi : Nat) (rv : Value) (w : World) (hx : NatAt w p b xs rest) (hm : ModAt w q pn bn ms mr od mi rv) (hbn : bn ≠ b)
    (hl : xs.length = ms.length) (hn : ms.length + mr.length ≤ 1000000) (hn1 : 1 ≤ ms.length) (hxm : val xs < val ms) (hym : 1 < val ms) :
    Calls Tryz.prog 58 #[.pointer (some ⟨p, 0, none⟩), .pointer (some ⟨q, 0, none⟩)] w fun e w' =>
      e = .returned (.pointer (some ⟨p, 0, none⟩)) ∧ ∃ zs : List Nat, zs.length = xs.length ∧ NatAt w' p b zs rest ∧ Kept (OneBlk b) w w' ∧ val zs = (val xs + val ms - 1) % val ms := by
  have HM := Lib.hid hm
  have HX := Lib.hid hx
  have HL := Lib.hid hl
  have hpl := hx.lt
  have hml := hm.2.lt
  clear hx hm hl
  go_enter Tryz.func58, Tryz.ntmps58
  go_wp2_with fail
  refine (newNat_any w).mono ?_
  rintro e w1 ⟨rfl, h1, k1⟩
  have hs1 := k1.size
  have hexp := expandFor_any (w.heap.size + 1) w.heap.size q pn bn [] (noughts 32) ms mr od mi rv w1 h1 (HM.out.still k1) (by simp) (by omega)
  have HE := Lib.hid hexp
  have K1 := Lib.hid k1
  clear h1 k1 hexp
  go_wp2_with fail
  refine HE.out.mono ?_
  rintro e w2 ⟨rfl, b2, rest2, h2, h3, h4, h5⟩
  have hk : Kept NoBlk w w2 := K1.out.step h5 (fun i hi e => by unfold Both at e; omega)
  have hb2 : w.heap.size ≤ b2 := by omega
  simp only [List.nil_append, List.length_nil, Nat.sub_zero] at h2 h4
  have c1 := h2.cell
  have c2 := h2.limb 0 (by rw [noughts_length]; omega)
  have f2 := h2.2.1.frozen 0
  rw [noughts_length] at c1 h4
  have h6 := h2.setLimb 0 1 (by rw [noughts_length]; omega) (by decide)
  have hk6 : Kept NoBlk w (w2.setCell ⟨b2, 0, none⟩ (.int .u64 ((1 : Nat) : Int))) := hk.setNew hb2 _ _
  have hv := val_one ms.length hn1
  have hsub := modSub_any p b (w.heap.size + 1) b2 q pn bn xs rest ((noughts ms.length).set 0 1) rest2 ms mr od mi rv _ (HX.out.still hk6) h6 (HM.out.still hk6) (.inl (by omega)) hbn HL.out (by rw [List.length_set, noughts_length]) hn
    (by rw [List.length_set, noughts_length]; simp [noughts] at h4; omega) hxm (by rw [hv]; exact hym)
  rw [hv] at hsub
  have HSUB := Lib.hid hsub
  have HK6 := Lib.hid hk6
  have hpos : (0 : Int) < (ms.length : Int) := by omega
  clear h2 h3 h4 h5 hk h6 hk6 hv hsub HE K1
  go_wp2_with fail
  refine HSUB.out.mono ?_
  rintro e w3 ⟨rfl, zs, z1, z2, z3, z4⟩
  have hfin : ∃ zs : List Nat, zs.length = xs.length ∧ NatAt w3 p b zs rest ∧ Kept (OneBlk b) w w3 ∧ val zs = (val xs + val ms - 1) % val ms := ⟨zs, z1, z2, (HK6.out.mono (S' := OneBlk b) (fun _ _ e => e.elim)).trans z3, z4⟩
  have FIN := Lib.hid hfin
  clear hfin z1 z2 z3 z4 HSUB
  go_wp2_with fail
  go_ret
  exact ⟨rfl, FIN.out⟩

end Go.Proofs.YtdmpiecdpdknaaaGreatDoor
namespace Go.Proofs.YtdmpiecdpdknaaaGreatDoor
open Go.RowKit

/-- One step of the multiplication by a word. -/
theorem mul_step (x y z c : Nat) (hx : x < 18446744073709551616) (hy : y < 18446744073709551616) (hz : z < 18446744073709551616) (hc : c < 18446744073709551616) :
    ∃ hi lo lo1 c1 lo2 c2 : Nat, x * y = lo + 18446744073709551616 * hi ∧ lo < 18446744073709551616 ∧ lo + z + 0 = lo1 + 18446744073709551616 * c1 ∧ lo1 < 18446744073709551616 ∧ c1 ≤ 1 ∧ hi + 0 + c1 < 18446744073709551616 ∧
      lo1 + c + 0 = lo2 + 18446744073709551616 * c2 ∧ lo2 < 18446744073709551616 ∧ c2 ≤ 1 ∧ hi + c1 + c2 < 18446744073709551616 ∧ lo2 + 18446744073709551616 * (hi + c1 + c2) = x * y + z + c := by
  have hb : x * y ≤ 18446744073709551615 * 18446744073709551615 := Nat.mul_le_mul (by omega) (by omega)
  obtain ⟨p, hp⟩ : ∃ p, x * y = p := ⟨_, rfl⟩
  rw [hp] at hb ⊢
  refine ⟨p / 18446744073709551616, p % 18446744073709551616, (p % 18446744073709551616 + z) % 18446744073709551616, (p % 18446744073709551616 + z) / 18446744073709551616,
    ((p % 18446744073709551616 + z) % 18446744073709551616 + c) % 18446744073709551616, ((p % 18446744073709551616 + z) % 18446744073709551616 + c) / 18446744073709551616, ?_, ?_, ?_, ?_, ?_, ?_, ?_, ?_, ?_, ?_, ?_⟩ <;> omega

set_option maxHeartbeats 800000 in
theorem addMulVVW_any (bz oz cz bx ox lx cx y : Nat) (pre zs post xs : List Nat) (w : World) (hpre : pre.length = oz) (hz : Blk w bz 67 ((pre ++ zs ++ post).map U).toArray) (hx : At w (some ⟨bx, ox, none⟩) (xs.map U)) (hb : bx ≠ bz)
    (hl : zs.length = xs.length) (hl1 : 1 ≤ xs.length) (hlx : xs.length ≤ lx) (hn : lx ≤ 1000000) (wz : Wd zs) (wx : Wd xs) (hy : y < 18446744073709551616) :
    Calls Tryz.prog 94 #[.slice (some ⟨bz, oz, none⟩) xs.length cz, .slice (some ⟨bx, ox, none⟩) lx cx, .int .u64 y] w fun e w' =>
      ∃ (us : List Nat) (c : Nat), e = .returned (.int .u64 c) ∧ c < 18446744073709551616 ∧ us.length = xs.length ∧ Wd us ∧ val us + Pw xs.length * c = val zs + val xs * y ∧ Blk w' bz 67 ((pre ++ us ++ post).map U).toArray ∧ Kept (OneBlk bz) w w' := by
  obtain ⟨b0, o0, e0, hbl, hc⟩ := hx.at_ (k := 0) (by simp; omega)
  cases e0
  have hmid : Mid w bz pre (pre ++ zs ++ post) oz := by
    unfold Mid
    rw [List.append_assoc, List.drop_left' hpre, ← List.append_assoc]
    exact hz
  have hcl : w.cell? ⟨bx, ox + (xs.length - 1), none⟩ = some (.int .u64 (xs[xs.length - 1] : Int)) := hc _ _ (by rw [List.getElem?_map, List.getElem?_eq_getElem (by omega)]; rfl)
  have hi1 : (xs.length : Int) - 1 = ((xs.length - 1 : Nat) : Int) := by omega
  have hi2 : ((xs.length - 1 : Nat) : Int) < (lx : Int) := by omega
  have HC := Lib.hid hc
  have HMID := Lib.hid hmid
  have HL := Lib.hid hl
  have HPRE := Lib.hid hpre
  have HWZ := Lib.hid wz
  have HWX := Lib.hid wx
  clear hc hmid hz hx hl hpre wz wx
  go_enter Tryz.func94, Tryz.ntmps94
  go_wp2_with fail
  clear hcl
  go_loopw [6, 19] (fun cv iv wr => ∃ (k : Nat) (us : List Nat) (c : Nat), k ≤ xs.length ∧ cv = .int .u64 c ∧ iv = .int .i64 k ∧ c < 18446744073709551616 ∧ us.length = k ∧ Wd us ∧ val us + Pw k * c = val (zs.take k) + val (xs.take k) * y ∧ Mid wr bz (pre ++ us) (pre ++ zs ++ post) (oz + k) ∧ Kept (OneBlk bz) w wr) (fun _ i _ => xs.length - (intOf i).toNat)
  case atStart => exact ⟨0, [], 0, Nat.zero_le _, rfl, rfl, by decide, rfl, Wd.nil, by simp [val], by simpa using HMID.out, Kept.refl _ _⟩
  case round =>
    obtain ⟨k, us, c, hk, rfl, rfl, hc, hu, hwu, hv, hm, hkept⟩ := hrel
    by_cases hlt : k < xs.length
    · have hkz : k < zs.length := by have := HL.out; omega
      have hos : oz + k < (pre ++ zs ++ post).length := by simp [HPRE.out]; omega
      have hul : (pre ++ us).length = oz + k := by rw [List.length_append, HPRE.out, hu]
      have cz0 := hm.cell hul hos
      have hel : (pre ++ zs ++ post)[oz + k] = zs[k] := by
        rw [List.getElem_append_left (by simp [HPRE.out]; omega), List.getElem_append_right (by have := HPRE.out; omega)]
        congr 1
        have := HPRE.out; omega
      rw [hel] at cz0
      have cx0 : wr.cell? ⟨bx, ox + k, none⟩ = some (.int .u64 (xs[k] : Int)) :=
        (hkept.cell (p := ⟨bx, ox + k, none⟩) hbl hb).trans (HC.out _ _ (by rw [List.getElem?_map, List.getElem?_eq_getElem hlt]; rfl))
      obtain ⟨hi, lo, lo1, c1, lo2, c2, e1, l1, e2, l2, l3, l4, e3, l5, l6, l7, e4⟩ := mul_step xs[k] y zs[k] c (HWX.out.get k hlt) hy (HWZ.out.get k hkz) hc
      have m1 := bitsMul_is xs[k] y hi lo (HWX.out.get k hlt) hy l1 e1
      have m2 := bitsAdd_is lo zs[k] 0 lo1 c1 (by omega) l2 e2
      have m3 := bitsAdd_is hi 0 c1 (hi + c1) 0 l3 (by omega) (by omega)
      have m4 := bitsAdd_is lo1 c 0 lo2 c2 (by omega) l5 e3
      have m5 := bitsAdd_is (hi + c1) 0 c2 (hi + c1 + c2) 0 l6 (by omega) (by omega)
      have hv' : val (us ++ [lo2]) + Pw (k + 1) * (hi + c1 + c2) = val (zs.take (k + 1)) + val (xs.take (k + 1)) * y := by
        rw [val_snoc, val_take_succ zs k hkz, val_take_succ xs k hlt, hu, Pw_succ, Nat.add_mul, Nat.mul_assoc (Pw k) xs[k] y]
        have : Pw k * lo2 + Pw k * (18446744073709551616 * (hi + c1 + c2)) = Pw k * (xs[k] * y) + Pw k * zs[k] + Pw k * c := by
          rw [← Nat.mul_add, ← Nat.mul_add, ← Nat.mul_add, e4]
        rw [Nat.mul_comm 18446744073709551616 (Pw k), Nat.mul_assoc (Pw k) 18446744073709551616]; omega
      have hf := hm.frozen (oz + k)
      have hset := fun w' h => hm.set hul hos lo2 (w' := w') h
      rw [List.append_assoc, Nat.add_assoc] at hset
      obtain ⟨h1, eh1⟩ : ∃ h1, hi + c1 = h1 := ⟨_, rfl⟩
      obtain ⟨h2, eh2⟩ : ∃ h2, h1 + c2 = h2 := ⟨_, rfl⟩
      rw [eh1] at m3 m5 l7 hv'
      rw [eh2] at m5 l7 hv'
      have M1 := Lib.hid m1
      have M2 := Lib.hid m2
      have M3 := Lib.hid m3
      have M4 := Lib.hid m4
      have M5 := Lib.hid m5
      have HV := Lib.hid hv'
      have HSET := Lib.hid hset
      have HU := Lib.hid hu
      have HWU := Lib.hid (hwu.snoc l5)
      have HK := Lib.hid hkept
      clear m1 m2 m3 m4 m5 hv' hset hu hwu hkept hm hv e1 e2 e3 e4 eh1 eh2 hel hul l4
      go_wp2_with fail
      refine (M1.out _).mono ?_
      rintro e w' ⟨rfl, rfl⟩
      go_wp2_with fail
      refine (M2.out _).mono ?_
      rintro e w' ⟨rfl, rfl⟩
      go_wp2_with fail
      refine (M3.out _).mono ?_
      rintro e w' ⟨rfl, rfl⟩
      go_wp2_with fail
      refine (M4.out _).mono ?_
      rintro e w' ⟨rfl, rfl⟩
      go_wp2_with fail
      refine (M5.out _).mono ?_
      rintro e w' ⟨rfl, rfl⟩
      go_wp2_with fail
      go_roundw
      case rel => exact ⟨k + 1, us ++ [lo2], h2, by omega, rfl, by go_num, l7, by rw [List.length_append, HU.out]; rfl, HWU.out, HV.out, HSET.out _ rfl, HK.out.setOne _ _⟩
      case measure => simp [intOf]; omega
    · obtain rfl : k = xs.length := by omega
      have hl := HL.out
      rw [List.take_of_length_le (Nat.le_refl _), ← hl, List.take_of_length_le (Nat.le_refl _)] at hv
      rw [hl] at hv
      have hfin : Blk wr bz 67 ((pre ++ us ++ post).map U).toArray := by
        have h := hm
        unfold Mid at h
        rw [List.drop_left' (by simp [HPRE.out]; omega)] at h
        exact h
      have FIN := Lib.hid hfin
      have HV := Lib.hid hv
      have HK := Lib.hid hkept
      have HWU := Lib.hid hwu
      have HU := Lib.hid hu
      clear hm hkept hv hl hfin hwu hu
      go_wp2_with fail
      go_ret
      exact ⟨us, c, rfl, hc, HU.out, HWU.out, HV.out, FIN.out, HK.out⟩

end Go.Proofs.YtdmpiecdpdknaaaGreatDoor
namespace Go.Proofs.YtdmpiecdpdknaaaGreatDoor
open Go.RowKit

theorem mont_step (n av mv d Y i c c1 c2 s c' q B0 : Nat) (us us1 us2 : List Nat) (hn : us2.length + 1 = n)
    (h1 : val us1 + Pw n * c1 = val us + av * d) (h2 : val (0 :: us2) + Pw n * c2 = val us1 + mv * Y) (h3 : c1 + c2 + c = s + 18446744073709551616 * c') (hI : Pw i * (val us + Pw n * c) = av * B0 + mv * q) :
    Pw (i + 1) * (val (us2 ++ [s]) + Pw n * c') = av * (B0 + Pw i * d) + mv * (q + Pw i * Y) := by
  have e1 : 18446744073709551616 * (val (us2 ++ [s]) + Pw n * c') = (val us + Pw n * c) + av * d + mv * Y := by
    rw [val_snoc, val, Nat.zero_add] at *
    have a1 : 18446744073709551616 * (Pw us2.length * s) = Pw n * s := by rw [← hn, Pw_succ, Nat.mul_assoc]
    have a2 : Pw n * c1 + Pw n * c2 + Pw n * c = Pw n * s + 18446744073709551616 * (Pw n * c') := by
      rw [← Nat.mul_add, ← Nat.mul_add, h3, Nat.mul_add, Nat.mul_left_comm]
    rw [Nat.mul_add, Nat.mul_add, a1]
    omega
  rw [Pw_succ, Nat.mul_comm 18446744073709551616 (Pw i), Nat.mul_assoc, e1, Nat.mul_add, Nat.mul_add, hI, Nat.mul_add, Nat.mul_add, Nat.mul_left_comm (Pw i) av d, Nat.mul_left_comm (Pw i) mv Y]
  omega

/-- The lowest word falls to nought. -/
theorem mont_low (u m k Y : Nat) (hk : m * k % 18446744073709551616 = 18446744073709551615) (hY : Y = u * k % 18446744073709551616) : (u + m * Y) % 18446744073709551616 = 0 := by
  obtain ⟨t, ht⟩ : ∃ t, m * k = 18446744073709551616 * t + 18446744073709551615 := ⟨m * k / 18446744073709551616, by omega⟩
  obtain ⟨r, hr⟩ : ∃ r, u * k = 18446744073709551616 * r + Y := ⟨u * k / 18446744073709551616, by omega⟩
  have e : u + m * Y + 18446744073709551616 * (m * r) = 18446744073709551616 * (u * t + u) := by
    have h : m * (u * k) = m * (18446744073709551616 * r) + m * Y := by rw [hr, Nat.mul_add]
    have h' : m * (u * k) = u * (18446744073709551616 * t) + u * 18446744073709551615 := by rw [← Nat.mul_add, ← ht, Nat.mul_left_comm]
    rw [Nat.mul_left_comm m 18446744073709551616 r] at h
    rw [Nat.mul_left_comm u 18446744073709551616 t] at h'
    rw [Nat.mul_add]
    omega
  have := congrArg (· % 18446744073709551616) e
  simpa [Nat.add_mul_mod_self_left, Nat.mul_mod_right] using this

theorem val_mod (x : Nat) (xs : List Nat) (h : x < 18446744073709551616) : val (x :: xs) % 18446744073709551616 = x := by rw [val]; omega

theorem mont_head (n mv Y c2 u k m0 : Nat) (us1 us2 ms : List Nat) (hn : us2.length = n) (h1 : 1 ≤ n) (w2 : Wd us2) (wm : m0 < 18446744073709551616) (hmv : mv = val (m0 :: ms)) (hu1 : u < 18446744073709551616)
    (h2 : val us2 + Pw n * c2 = val (u :: us1) + mv * Y) (hk : m0 * k % 18446744073709551616 = 18446744073709551615) (hY : Y = u * k % 18446744073709551616) : ∃ us, us2 = 0 :: us := by
  cases us2 with
  | nil => simp at hn; omega
  | cons z zs =>
    refine ⟨zs, ?_⟩
    have hz := w2 z (List.mem_cons_self ..)
    have e := congrArg (· % 18446744073709551616) h2
    obtain ⟨j, rfl⟩ : ∃ j, n = j + 1 := ⟨n - 1, by omega⟩
    simp only [Pw_succ, Nat.mul_assoc, Nat.add_mul_mod_self_left, val_mod z zs hz] at e
    rw [Nat.add_mod, val_mod u us1 hu1, Nat.mul_mod, hmv, val_mod m0 ms wm, ← Nat.mul_mod_mod, Nat.mod_mod, ← Nat.mul_mod_mod] at e
    have e2 := mont_low u m0 k Y hk hY
    rw [Nat.add_mod, Nat.mod_eq_of_lt hu1] at e2
    simp only [Nat.mod_mod, Nat.mul_mod_mod] at e e2
    rw [e2] at e
    rw [e]

theorem mont_end (n av bv mv q S : Nat) (h : Pw n * S = av * bv + mv * q) (hq : q < Pw n) (ha : av < mv) (hb : bv < Pw n) : S < 2 * mv := by
  apply Classical.byContradiction
  intro hc
  have h1 : Pw n * (2 * mv) ≤ Pw n * S := Nat.mul_le_mul_left _ (by omega)
  have h2 : av * bv ≤ mv * bv := Nat.mul_le_mul_right _ (by omega)
  have h3 : mv * (bv + q) + mv * 2 ≤ mv * (2 * Pw n) := by rw [← Nat.mul_add]; exact Nat.mul_le_mul_left _ (by omega)
  rw [Nat.mul_add] at h3
  have h4 : Pw n * (2 * mv) = mv * (2 * Pw n) := by rw [Nat.mul_left_comm, Nat.mul_comm (Pw n) mv, Nat.mul_left_comm]
  omega

end Go.Proofs.YtdmpiecdpdknaaaGreatDoor
