/-
  laws.keyOf.
-/
import Derived.Test.YtdmpiecdpdknaaaGreatDoorSpecK
import Derived.Test.YtdmpiecdpdknaaaGreatDoorPriv3
import Derived.Laws.Rows
namespace Go.Proofs.YtdmpiecdpdknaaaGreatDoor
open Go.RowKit

/-- The key of a pair. -/
def KeyAt (a b : Nat) (w : World) (v : Value) : Prop := KeyV w (Mp a * Mp b) 65537 (secOf a b) (mers a) (mers b) v
def GaveK (a b : Nat) (w : World) (e : Ending) (w' : World) : Prop := ∃ v, e = .returned v ∧ KeyAt a b w' v ∧ Kept NoBlk w w'

/-- Bytes lie in no block of other cells. -/
theorem BytesAt.past {w w' : World} {g : Nat} {t : TypeId} {cs : Array Value} {A : Option Addr} {xs : List UInt8} (h : BytesAt w A xs) (hb : Blk w g t cs) (hn : ∀ (i : Nat) (x : UInt8), cs[i]? ≠ some (B x)) (k : Kept (OneBlk g) w w') : BytesAt w' A xs := by
  cases xs with
  | nil => exact BytesAt.nil _ _
  | cons x xs =>
    obtain ⟨b, off, rfl, hlt, hc⟩ := h.at_ (k := 0) (by simp)
    have h0 := hc 0 x rfl
    refine h.kept k ?_
    rintro a ha hs
    cases ha
    have hs : b = g := hs
    subst hs
    rw [hb.cell] at h0
    exact hn _ _ h0
theorem notB5 {a b c d e : Value} (ha : ∀ x, a ≠ B x) (hb : ∀ x, b ≠ B x) (hc : ∀ x, c ≠ B x) (hd : ∀ x, d ≠ B x) (he : ∀ x, e ≠ B x) : ∀ (i : Nat) (x : UInt8), (#[a, b, c, d, e] : Array Value)[i]? ≠ some (B x) := by
  intro i x
  match i with
  | 0 => simpa using ha x
  | 1 => simpa using hb x
  | 2 => simpa using hc x
  | 3 => simpa using hd x
  | 4 => simpa using he x
  | n + 5 => simp

theorem keyOf_any (n : Nat) (hn : n < 256) (w : World) :
    Calls Tryz.prog 5 #[.int .u8 (n : Int)] w (GaveK (e1 n) (e2 n) w) := by
  have hd := duo n hn
  have HP : Hid (∀ w', _) := Lib.hid (fun w' => pair_any n hn w')
  have HM : Hid (∀ w', _) := Lib.hid (fun w' => modulus_spec n hn w')
  generalize e1 n = a at *
  generalize e2 n = b at *
  have HS : Hid (∀ (w' : World) (A A' : Option Addr) (c c' : Nat) (hx : BytesAt w' A (mers a)) (hy : BytesAt w' A' (mers b)), _) := Lib.hid (fun w' A A' c c' hx hy => secret_any a b hd w' A A' c c' hx hy)
  go_enter Tryz.func5, Tryz.ntmps5
  go_wp2_with fail
  refine (HP.out _).mono ?_
  rintro e w1 ⟨A1, c1, A2, c2, rfl, hat1, hc1, hat2, hc2, k1⟩
  have HAT1 := Lib.hid hat1
  have HAT2 := Lib.hid hat2
  have K1 := Lib.hid k1
  clear hat1 hat2 k1
  go_wp2_with fail
  refine (HM.out w1).mono ?_
  rintro e w2 ⟨A3, c3, rfl, hat3, hc3, k2⟩
  have HC := Lib.hid (HS.out w2 A1 A2 c1 c2 (HAT1.out.still k2) (HAT2.out.still k2))
  have HAT3 := Lib.hid hat3
  have K12 := Lib.hid k2
  clear hat3 k2 HP HM HS
  go_wp2_with fail
  refine HC.out.mono ?_
  rintro e w3 ⟨A4, c4, rfl, hat4, hc4, k3⟩
  have hb := ((Blk.new w 26 #[.slice none 0 0, .int .i64 0, .slice none 0 0, .slice none 0 0, .slice none 0 0]).kept (K1.out.none (K12.out.none k3)) (fun e => e))
  have k03 : Kept NoBlk w w3 := (((Kept.refl NoBlk w).alloc _).none K1.out).none (K12.out.none k3)
  have f0 := hb.frozen 0
  have f1 := hb.frozen 1
  have f2 := hb.frozen 2
  have f3 := hb.frozen 3
  have f4 := hb.frozen 4
  have x0 : w3.cell? ⟨w.heap.size, 0, none⟩ = some (.slice none 0 0) := hb.cellIs rfl
  have x1 : w3.cell? ⟨w.heap.size, 1, none⟩ = some (.int .i64 0) := hb.cellIs rfl
  have x2 : w3.cell? ⟨w.heap.size, 2, none⟩ = some (.slice none 0 0) := hb.cellIs rfl
  have x3 : w3.cell? ⟨w.heap.size, 3, none⟩ = some (.slice none 0 0) := hb.cellIs rfl
  have x4 : w3.cell? ⟨w.heap.size, 4, none⟩ = some (.slice none 0 0) := hb.cellIs rfl
  have HB := Lib.hid hb
  have K03 := Lib.hid k03
  have B1 := Lib.hid ((HAT1.out.still K12.out).still k3)
  have B2 := Lib.hid ((HAT2.out.still K12.out).still k3)
  have B3 := Lib.hid (HAT3.out.still k3)
  have B4 := Lib.hid hat4
  obtain ⟨w4, hw4⟩ : ∃ w4, (((((w3.setCell ⟨w.heap.size, 0, none⟩ (Value.slice A3 (encT (Mp a * Mp b)).length c3)).setCell ⟨w.heap.size, 1, none⟩ (Value.int IntKind.i64 65537)).setCell ⟨w.heap.size, 2, none⟩ (Value.slice A4 (encT (secOf a b)).length c4)).setCell ⟨w.heap.size, 3, none⟩ (Value.slice A1 (mers a).length c1)).setCell ⟨w.heap.size, 4, none⟩ (Value.slice A2 (mers b).length c2)) = w4 := ⟨_, rfl⟩
  have hb4 : Blk w4 w.heap.size 26 #[Value.slice A3 (encT (Mp a * Mp b)).length c3, Value.int IntKind.i64 65537, Value.slice A4 (encT (secOf a b)).length c4, Value.slice A1 (mers a).length c1, Value.slice A2 (mers b).length c2] := by
    rw [← hw4]
    exact ((((hb.set_ 0 _).set_ 1 _).set_ 2 _).set_ 3 _).set_ 4 _
  have k34 : Kept (OneBlk w.heap.size) w3 w4 := by
    rw [← hw4]
    exact (((((Kept.refl (OneBlk w.heap.size) w3).setOne 0 _).setOne 1 _).setOne 2 _).setOne 3 _).setOne 4 _
  have k04 : Kept NoBlk w w4 := by
    rw [← hw4]
    exact ((((k03.setNew (Nat.le_refl _) 0 _).setNew (Nat.le_refl _) 1 _).setNew (Nat.le_refl _) 2 _).setNew (Nat.le_refl _) 3 _).setNew (Nat.le_refl _) 4 _
  have hnb := @notB5 (.slice none 0 0) (.int .i64 0) (.slice none 0 0) (.slice none 0 0) (.slice none 0 0) (fun x e => by cases e) (fun x e => by cases e) (fun x e => by cases e) (fun x e => by cases e) (fun x e => by cases e)
  have FIN : Hid (GaveK a b w (.returned (.agg #[Value.slice A3 (encT (Mp a * Mp b)).length c3, Value.int IntKind.i64 65537, Value.slice A4 (encT (secOf a b)).length c4, Value.slice A1 (mers a).length c1, Value.slice A2 (mers b).length c2])) w4) :=
    Lib.hid ⟨_, rfl, ⟨A3, A4, A1, A2, c3, c4, c1, c2, rfl, B3.out.past hb hnb k34, B4.out.past hb hnb k34, B1.out.past hb hnb k34, B2.out.past hb hnb k34, hc3, hc4, hc1, hc2⟩, k04⟩
  have HB4 := Lib.hid hb4
  have HW4 := Lib.hid hw4
  clear hb k03 hat4 HC k3 HAT1 HAT2 HAT3 K1 K12 hb4 k34 k04 hnb B1 B2 B3 B4 HB hw4
  go_wp2_with fail
  rw [HW4.out]
  clear f0 f1 f2 f3 f4 x0 x1 x2 x3 x4
  (try simp only [Exit.inBlock, Exit.then])
  have hl : Sem.run Tryz.prog (loadCells ⟨w.heap.size, 0, none⟩ 5) w4 = .ok #[Value.slice A3 (encT (Mp a * Mp b)).length c3, Value.int IntKind.i64 65537, Value.slice A4 (encT (secOf a b)).length c4, Value.slice A1 (mers a).length c1, Value.slice A2 (mers b).length c2] w4 :=
    run_loadCells_list (P := Tryz.prog) w4 ⟨w.heap.size, 0, none⟩ [Value.slice A3 (encT (Mp a * Mp b)).length c3, Value.int IntKind.i64 65537, Value.slice A4 (encT (secOf a b)).length c4, Value.slice A1 (mers a).length c1, Value.slice A2 (mers b).length c2] (fun j v hv => by
      have hadd : (⟨w.heap.size, 0, none⟩ : Addr).add j = ⟨w.heap.size, j, none⟩ := by unfold Addr.add; split <;> simp_all
      rw [hadd, HB4.out.cell]
      simpa using hv)
  refine bodyPost_ret (v := .agg #[Value.slice A3 (encT (Mp a * Mp b)).length c3, Value.int IntKind.i64 65537, Value.slice A4 (encT (secOf a b)).length c4, Value.slice A1 (mers a).length c1, Value.slice A2 (mers b).length c2]) ?_ rfl FIN.out
  clear FIN HB4 HW4 K03
  simp [results, Tryz.results5, asAddr, loadVar, Sem.run_bind, Tryz.isAgg26, Tryz.sizeOf26, Result.andThen, hl]

end Go.Proofs.YtdmpiecdpdknaaaGreatDoor
