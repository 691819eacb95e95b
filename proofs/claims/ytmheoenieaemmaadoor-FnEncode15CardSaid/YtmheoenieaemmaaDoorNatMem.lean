/-
  bigmod.Nat: NewNat, reset, expand, set.
-/
import Derived.Test.YtmheoenieaemmaaDoorWordRows
import Derived.StillTailTactics
namespace Go.Proofs.YtmheoenieaemmaaDoor
open Go.RowKit

def Both (p b : Nat) : Nat → Prop := fun k => k = p ∨ k = b
def noughts (n : Nat) : List Nat := List.replicate n 0
theorem noughts_wd (n : Nat) : Wd (noughts n) := Wd.replicate n 0 (by decide)
theorem noughts_length (n : Nat) : (noughts n).length = n := List.length_replicate
theorem val_noughts (n : Nat) : val (noughts n) = 0 := val_replicate_zero n

theorem newNat_any (w : World) :
    Calls Tryd.prog 61 #[] w fun e w' => e = .returned (.pointer (some ⟨w.heap.size + 1, 0, none⟩)) ∧ NatAt w' (w.heap.size + 1) w.heap.size [] (noughts 32) ∧ Kept NoBlk w w' := by
  have hmk : ∀ w' : World, (Instr.makeSlice 132 (.int .i64 0) (.int .i64 32)).run Tryd.prog w' = .ok (.slice (some ⟨w'.heap.size, 0, none⟩) 0 32) (w'.alloc (.cells (noughtRow 32) 68)) := fun w' => make_words w' 0 32 (by decide) (by decide)
  go_enter Tryd.func61, Tryd.ntmps61
  go_wp2_with fail
  go_ret
  have h1 := Blk.new (w.alloc (Obj.cells (noughtRow 32) 68)) 134 #[.slice (some ⟨w.heap.size, 0, none⟩) 0 32]
  have h2 := (Blk.new w 68 (noughtRow 32)).alloc (.cells #[.slice (some ⟨w.heap.size, 0, none⟩) 0 32] 134)
  rw [show (w.alloc (Obj.cells (noughtRow 32) 68)).heap.size = w.heap.size + 1 by simp] at h1
  have e1 : ([] ++ noughts 32).length = 32 := by simp [noughts_length]
  refine ⟨rfl, ⟨?_, ?_, Wd.nil, noughts_wd 32⟩, ((Kept.refl _ w).alloc _).alloc _⟩
  · rw [noughts_length]; exact h1
  · rw [List.nil_append]; exact h2

/-- What a resizing leaves: the number zs, in the old row or in a new one. -/
def Sized (p b : Nat) (zs : List Nat) (capOld : Nat) (w : World) (e : Ending) (w' : World) : Prop :=
  e = .returned (.pointer (some ⟨p, 0, none⟩)) ∧ ∃ (b' : Nat) (rest' : List Nat), NatAt w' p b' zs rest' ∧ (b' = b ∧ zs.length + rest'.length = capOld ∨ w.heap.size ≤ b' ∧ capOld < zs.length) ∧ zs.length + rest'.length ≤ max zs.length capOld ∧ Kept (Both p b) w w'

set_option maxRecDepth 4000 in
theorem reset_any (p b n : Nat) (xs rest : List Nat) (w : World) (hx : NatAt w p b xs rest) (hn : n ≤ 1000000) :
    Calls Tryd.prog 101 #[.pointer (some ⟨p, 0, none⟩), .int .i64 n] w (Sized p b (noughts n) (xs.length + rest.length) w) := by
  have c1 := hx.cell
  have f1 := hx.1.frozen 0
  have HX := Lib.hid hx
  by_cases hlt : xs.length + rest.length < n
  · have hmk := fun w' => make_words w' n n (Nat.le_refl _) (by omega)
    have hpl := hx.lt.1
    clear hx
    go_enter Tryd.func101, Tryd.ntmps101
    go_wp2_with fail
    go_ret
    have h1 := ((HX.out.1).set_ 0 (.slice (some ⟨w.heap.size, 0, none⟩) n n)).alloc (.cells (noughtRow n) 68)
    have h2 := Blk.new (w.setCell ⟨p, 0, none⟩ (.slice (some ⟨w.heap.size, 0, none⟩) n n)) 68 (noughtRow n)
    rw [show (w.setCell ⟨p, 0, none⟩ (.slice (some ⟨w.heap.size, 0, none⟩) n n)).heap.size = w.heap.size by simp [World.setCell]] at h2
    refine ⟨rfl, w.heap.size, [], ⟨?_, ?_, noughts_wd n, Wd.nil⟩, .inr ⟨Nat.le_refl _, by rw [noughts_length]; exact hlt⟩, by rw [noughts_length]; simp; omega, ((Kept.refl (Both p b) w).setCell _ _ (fun _ => .inl rfl)).alloc _⟩
    · rw [noughts_length]; exact h1
    · rw [List.append_nil]; exact h2
  · have key : ∀ (m : Nat) (w1 : World), n ≤ m → m ≤ xs.length + rest.length → Blk w1 b 68 (splice ((xs ++ rest).map U) 0 ((List.replicate m 0).map U)).toArray → Kept (OneBlk b) w.drew w1 →
        Sized p b (noughts n) (xs.length + rest.length) w (.returned (.pointer (some ⟨p, 0, none⟩))) (w1.setCell ⟨p, 0, none⟩ (.slice (some ⟨b, 0, none⟩) n (xs.length + rest.length))) := by
      intro m w1 h1 h2 b1 k1
      have hp1 := HX.out.1.kept (w' := w.drew) ((Kept.refl NoBlk w).drew) (fun e => e)
      have hp2 := (hp1.kept k1 HX.out.pb).set_ 0 (.slice (some ⟨b, 0, none⟩) n (xs.length + rest.length))
      have hb2 := b1.far (p := ⟨p, 0, none⟩) (fun e => HX.out.pb e.symm) (.slice (some ⟨b, 0, none⟩) n (xs.length + rest.length))
      have hrow : splice ((xs ++ rest).map U) 0 ((List.replicate m 0).map U) = (noughts n ++ (noughts (m - n) ++ (xs ++ rest).drop m)).map U := by
        have : List.replicate m 0 = noughts n ++ noughts (m - n) := by
          unfold noughts; rw [List.replicate_append_replicate]; congr 1; omega
        have hl : (noughts n ++ noughts (m - n)).length = m := by rw [List.length_append, noughts_length, noughts_length]; omega
        rw [this, ← List.append_assoc, List.map_append (l₁ := noughts n ++ noughts (m - n)), List.map_drop]
        unfold splice
        rw [List.length_map, hl, List.take_zero, List.nil_append, Nat.zero_add]
      rw [hrow] at hb2
      have hlen : (noughts (m - n) ++ (xs ++ rest).drop m).length = xs.length + rest.length - n := by simp [noughts]; omega
      refine ⟨rfl, b, noughts (m - n) ++ (xs ++ rest).drop m, ⟨?_, hb2, noughts_wd n, (noughts_wd _).app ((HX.out.2.2.1.app HX.out.2.2.2).drop m)⟩, .inl ⟨rfl, by rw [hlen, noughts_length]; omega⟩, by rw [hlen, noughts_length]; omega, ?_⟩
      · rw [hlen, noughts_length, show n + (xs.length + rest.length - n) = xs.length + rest.length by omega]; exact hp2
      · exact (((Kept.refl (Both p b) w).drew).step k1 (fun _ _ e => .inr e)).setCell _ _ (fun _ => .inl rfl)
    have KEY := Lib.hid key
    clear hx key
    rcases Nat.lt_or_ge n xs.length with hnl | hnl
    · have bl1 : (xs.length : Int) ≤ (xs.length : Int) + (rest.length : Int) := by omega
      go_enter Tryd.func101, Tryd.ntmps101
      go_wp2_with fail
      go_still_tail 12, (by kernel_rfl)
      change wpList _ _ _ _ _ w.drew
      refine wpList_clear_words (by rfl) (.tmp 29) (by rfl) b 0 xs.length (xs.length + rest.length) (by rfl) ((xs ++ rest).map U) 68 HX.out.2.1 (by simp) ?_
      intro w1 b1 k1
      have hp1 := HX.out.1.kept (w' := w.drew) ((Kept.refl NoBlk w).drew) (fun e => e)
      have hp2 := hp1.kept k1 HX.out.pb
      have c1 : w1.cell? ⟨p, 0, none⟩ = some (.slice (some ⟨b, 0, none⟩) xs.length (xs.length + rest.length)) := hp2.cellIs rfl
      have f1 := hp2.frozen 0
      have HK := Lib.hid (KEY.out _ w1 (by omega) (by omega) b1 k1)
      clear b1 k1 hp1 hp2
      go_wp2_with fail
      go_ret
      exact HK.out
    · have bl1 : (n : Int) ≤ (xs.length : Int) + (rest.length : Int) := by omega
      have hnl2 : ¬ n < xs.length := by omega
      go_enter Tryd.func101, Tryd.ntmps101
      go_wp2_with fail
      go_still_tail 12, (by kernel_rfl)
      change wpList _ _ _ _ _ w.drew
      refine wpList_clear_words (by rfl) (.tmp 29) (by rfl) b 0 n (xs.length + rest.length) (by rfl) ((xs ++ rest).map U) 68 HX.out.2.1 (by simp; omega) ?_
      intro w1 b1 k1
      have hp1 := HX.out.1.kept (w' := w.drew) ((Kept.refl NoBlk w).drew) (fun e => e)
      have hp2 := hp1.kept k1 HX.out.pb
      have c1 : w1.cell? ⟨p, 0, none⟩ = some (.slice (some ⟨b, 0, none⟩) xs.length (xs.length + rest.length)) := hp2.cellIs rfl
      have f1 := hp2.frozen 0
      have HK := Lib.hid (KEY.out _ w1 (by omega) (by omega) b1 k1)
      clear b1 k1 hp1 hp2
      go_wp2_with fail
      go_ret
      exact HK.out

set_option maxRecDepth 4000 in
theorem expand_any (p b n : Nat) (xs rest : List Nat) (w : World) (hx : NatAt w p b xs rest) (hxn : xs.length ≤ n) (hn : n ≤ 1000000) :
    Calls Tryd.prog 109 #[.pointer (some ⟨p, 0, none⟩), .int .i64 n] w (Sized p b (xs ++ noughts (n - xs.length)) (xs.length + rest.length) w) := by
  have c1 := hx.cell
  have f1 := hx.1.frozen 0
  have HX := Lib.hid hx
  have hgt : ¬ n < xs.length := by omega
  have hzl : (xs ++ noughts (n - xs.length)).length = n := by rw [List.length_append, noughts_length]; omega
  have hwd : Wd (xs ++ noughts (n - xs.length)) := hx.2.2.1.app (noughts_wd _)
  have HZL := Lib.hid hzl
  have HWD := Lib.hid hwd
  have hpl := hx.lt.1
  have hbl := hx.lt.2
  clear hzl hwd
  by_cases hlt : xs.length + rest.length < n
  · have hmk := fun w' => make_words w' n n (Nat.le_refl _) (by omega)
    have hat : At (w.alloc (.cells (noughtRow n) 68)) (some ⟨b, 0, none⟩) (xs.map U) := (hx.2.1.alloc _).at_ _ (fun j u hu => by
      rw [List.getElem?_toArray, List.map_append, List.getElem?_append_left (by have := (List.getElem?_eq_some_iff.1 hu).1; simpa using this)]; exact hu)
    obtain ⟨w2, hrun, b2, k2⟩ := run_copy_words (w.alloc (.cells (noughtRow n) 68)) 3 (some ⟨w.heap.size, 0, none⟩) (some ⟨b, 0, none⟩) n n xs.length (xs.length + rest.length) w.heap.size 0 ((List.replicate n 0).map U) 68 (Blk.new w _ _) xs hat rfl xs.length (by omega) (fun _ => rfl) (by simp; omega)
    have hp2 := (hx.1.alloc (.cells (noughtRow n) 68)).kept k2 (Nat.ne_of_lt hpl)
    have c2 : w2.cell? ⟨p, 0, none⟩ = some (.slice (some ⟨b, 0, none⟩) xs.length (xs.length + rest.length)) := hp2.cellIs rfl
    have f2 := hp2.frozen 0
    have hp3 := hp2.set_ 0 (.slice (some ⟨w.heap.size, 0, none⟩) n n)
    have hb3 := b2.far (p := ⟨p, 0, none⟩) (Nat.ne_of_gt hpl) (.slice (some ⟨w.heap.size, 0, none⟩) n n)
    have hk3 : Kept (Both p b) w (w2.setCell ⟨p, 0, none⟩ (.slice (some ⟨w.heap.size, 0, none⟩) n n)) :=
      (((Kept.refl (Both p b) w).alloc _).fresh k2 (Nat.le_refl _)).setCell _ _ (fun _ => .inl rfl)
    rw [List.take_of_length_le (Nat.le_refl _)] at hb3
    have hrow : splice ((List.replicate n 0).map U) 0 (xs.map U) = ((xs ++ noughts (n - xs.length)) ++ []).map U := by
      simp [splice, noughts]
    rw [hrow] at hb3
    have HP3 := Lib.hid hp3
    have HB3 := Lib.hid hb3
    have HK3 := Lib.hid hk3
    clear hx hat b2 k2 hp2 hp3 hb3 hk3 hrow
    go_enter Tryd.func109, Tryd.ntmps109
    go_wp2_with fail
    go_ret
    refine ⟨rfl, w.heap.size, [], ⟨?_, HB3.out, HWD.out, Wd.nil⟩, .inr ⟨Nat.le_refl _, by rw [HZL.out]; exact hlt⟩, by rw [HZL.out]; simp; omega, HK3.out⟩
    rw [HZL.out]
    exact HP3.out
  · have key : ∀ (off : Nat) (w0 w1 : World), (n - xs.length = 0 ∨ off = xs.length) → w0.heap = w.heap → Kept NoBlk w w0 → Blk w1 b 68 (splice ((xs ++ rest).map U) off ((List.replicate (n - xs.length) 0).map U)).toArray → Kept (OneBlk b) w0 w1 →
        Sized p b (xs ++ noughts (n - xs.length)) (xs.length + rest.length) w (.returned (.pointer (some ⟨p, 0, none⟩))) (w1.setCell ⟨p, 0, none⟩ (.slice (some ⟨b, 0, none⟩) n (xs.length + rest.length))) := by
      intro off w0 w1 ho _ k0 b1 k1
      have hp1 := HX.out.1.kept k0 (fun e => e)
      have hp2 := (hp1.kept k1 HX.out.pb).set_ 0 (.slice (some ⟨b, 0, none⟩) n (xs.length + rest.length))
      have hb2 := b1.far (p := ⟨p, 0, none⟩) (fun e => HX.out.pb e.symm) (.slice (some ⟨b, 0, none⟩) n (xs.length + rest.length))
      have hrow : splice ((xs ++ rest).map U) off ((List.replicate (n - xs.length) 0).map U) = ((xs ++ noughts (n - xs.length)) ++ rest.drop (n - xs.length)).map U := by
        rcases ho with h0 | rfl
        · rw [h0]; simp [splice, noughts]
        · unfold splice noughts
          rw [List.length_map, List.length_replicate, ← List.map_take, ← List.map_drop, List.take_left, ← List.map_append, ← List.map_append, List.drop_append, List.drop_eq_nil_of_le (by omega)]
          rw [List.nil_append, Nat.add_sub_cancel_left, List.append_assoc]
      rw [hrow] at hb2
      have hlen : (rest.drop (n - xs.length)).length = xs.length + rest.length - n := by rw [List.length_drop]; omega
      refine ⟨rfl, b, rest.drop (n - xs.length), ⟨?_, hb2, HWD.out, HX.out.2.2.2.drop _⟩, .inl ⟨rfl, by rw [hlen, HZL.out]; omega⟩, by rw [hlen, HZL.out]; omega, ?_⟩
      · rw [hlen, HZL.out, show n + (xs.length + rest.length - n) = xs.length + rest.length by omega]; exact hp2
      · exact (((k0.mono (S' := Both p b) (fun _ _ e => e.elim))).step k1 (fun _ _ e => .inr e)).setCell _ _ (fun _ => .inl rfl)
    have KEY := Lib.hid key
    clear hx key
    have bl1 : (n : Int) ≤ (xs.length : Int) + (rest.length : Int) := by omega
    have bl2 : (xs.length : Int) ≤ (n : Int) := by omega
    have hA : ∀ nq, ∃ w1, (Builtin.clear_ #[132] 0 #[.slice (some ⟨b, xs.length, none⟩) (n - xs.length) rest.length]).run Tryd.prog (w.drewN nq) = .ok (.tuple #[]) w1 ∧ Blk w1 b 68 (splice ((xs ++ rest).map U) xs.length ((List.replicate (n - xs.length) 0).map U)).toArray ∧ Kept (OneBlk b) (w.drewN nq) w1 :=
      fun nq => run_clear_words (w.drewN nq) 0 b xs.length (n - xs.length) rest.length ((xs ++ rest).map U) 68 HX.out.2.1 (by simp; omega)
    have hB : ∀ nq, ∃ w1, (Builtin.clear_ #[132] 0 #[.slice (some ⟨b, 0, none⟩) (n - xs.length) rest.length]).run Tryd.prog (w.drewN nq) = .ok (.tuple #[]) w1 ∧ Blk w1 b 68 (splice ((xs ++ rest).map U) 0 ((List.replicate (n - xs.length) 0).map U)).toArray ∧ Kept (OneBlk b) (w.drewN nq) w1 :=
      fun nq => run_clear_words (w.drewN nq) 0 b 0 (n - xs.length) rest.length ((xs ++ rest).map U) 68 HX.out.2.1 (by simp; omega)
    have HA := Lib.hid hA
    have HB := Lib.hid hB
    clear hA hB
    have fin : ∀ (off nq : Nat) (w1 : World), (n - xs.length = 0 ∨ off = xs.length) → Blk w1 b 68 (splice ((xs ++ rest).map U) off ((List.replicate (n - xs.length) 0).map U)).toArray → Kept (OneBlk b) (w.drewN nq) w1 →
        w1.cell? ⟨p, 0, none⟩ = some (.slice (some ⟨b, 0, none⟩) xs.length (xs.length + rest.length)) ∧ w1.frozen? ⟨p, 0, none⟩ = false := by
      intro off nq w1 _ _ k1
      have hp2 := (HX.out.1.drewN nq).kept k1 HX.out.pb
      exact ⟨hp2.cellIs rfl, hp2.frozen 0⟩
    have FIN := Lib.hid fin
    clear fin
    by_cases hr : xs.length + rest.length = xs.length
    · obtain rfl : rest = [] := List.eq_nil_of_length_eq_zero (by omega)
      clear hr
      go_enter Tryd.func109, Tryd.ntmps109
      go_wp2_with fail
      go_quiet (fail)
      obtain ⟨w1, hrun, b1, k1⟩ := HB.out nq
      obtain ⟨c1, f1⟩ := FIN.out _ nq w1 (.inl (by omega)) b1 k1
      have HK := Lib.hid (KEY.out _ _ w1 (.inl (by omega)) (by rfl) ((Kept.refl _ _).drewN nq) b1 k1)
      clear b1 k1
      simp only [List.length_nil, Nat.add_zero] at hrun c1
      go_wp2_with fail
      go_ret
      exact HK.out
    · go_enter Tryd.func109, Tryd.ntmps109
      go_wp2_with fail
      go_quiet (fail)
      obtain ⟨w1, hrun, b1, k1⟩ := HA.out nq
      obtain ⟨c1, f1⟩ := FIN.out _ nq w1 (.inr rfl) b1 k1
      have HK := Lib.hid (KEY.out _ _ w1 (.inr rfl) (by rfl) ((Kept.refl _ _).drewN nq) b1 k1)
      clear b1 k1
      go_wp2_with fail
      go_ret
      exact HK.out

end Go.Proofs.YtmheoenieaemmaaDoor
