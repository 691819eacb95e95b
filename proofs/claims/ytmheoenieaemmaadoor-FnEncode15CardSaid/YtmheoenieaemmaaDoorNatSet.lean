/-
  bigmod.Nat: set, and what a modulus hands on: its number, resetFor, ExpandFor.
-/
import Derived.Test.YtmheoenieaemmaaDoorNatTwo
import Derived.Test.YtmheoenieaemmaaDoorNatMem
namespace Go.Proofs.YtmheoenieaemmaaDoor
open Go.RowKit

theorem NatAt.drew {w : World} {p b : Nat} {xs rest : List Nat} (h : NatAt w p b xs rest) : NatAt w.drew p b xs rest := h
theorem NatAt.drewN {w : World} {p b : Nat} {xs rest : List Nat} (h : NatAt w p b xs rest) (n : Nat) : NatAt (w.drewN n) p b xs rest := h
theorem NatAt.words {w : World} {p b : Nat} {xs rest : List Nat} (h : NatAt w p b xs rest) : At w (some ⟨b, 0, none⟩) (xs.map U) := h.2.1.at_ _ (fun j u hu => by
  rw [List.getElem?_toArray, List.map_append, List.getElem?_append_left (by have := (List.getElem?_eq_some_iff.1 hu).1; simpa using this)]; exact hu)
/-- The words of one number are no header of another. -/
theorem NatAt.cross {w : World} {p b p' b' : Nat} {xs rest xs' rest' : List Nat} (h : NatAt w p b xs rest) (h' : NatAt w p' b' xs' rest') : p ≠ b' := h.1.ne_ h'.2.1 (by decide)
theorem NatAt.away {w w' : World} {p b p' b' : Nat} {xs rest xs' rest' : List Nat} (h : NatAt w p' b' xs' rest') (hx : NatAt w p b xs rest) (hp : p' ≠ p) (hb : b' ≠ b) (k : Kept (Both p b) w w') : NatAt w' p' b' xs' rest' :=
  h.kept k (fun e => e.elim hp (h.cross hx)) (fun e => e.elim (fun e => hx.cross h e.symm) hb)
theorem NatAt.away1 {w w' : World} {p b p' b' : Nat} {xs rest xs' rest' : List Nat} (h : NatAt w p' b' xs' rest') (hx : NatAt w p b xs rest) (hb : b' ≠ b) (k : Kept (OneBlk b) w w') : NatAt w' p' b' xs' rest' :=
  h.kept k (h.cross hx) hb

set_option maxRecDepth 4000 in
theorem set_any (p b p' b' : Nat) (xs rest ys rest' : List Nat) (w : World) (hx : NatAt w p b xs rest) (hy : NatAt w p' b' ys rest') (hp : p' ≠ p) (hb : b' ≠ b) (hn : ys.length ≤ 1000000) :
    Calls Tryd.prog 99 #[.pointer (some ⟨p, 0, none⟩), .pointer (some ⟨p', 0, none⟩)] w (Sized p b ys (xs.length + rest.length) w) := by
  have c2 := hy.cell
  have hr := reset_any p b ys.length xs rest w hx hn
  have HR := Lib.hid hr
  have HX := Lib.hid hx
  have HY := Lib.hid hy
  clear hr hx hy
  go_enter Tryd.func99, Tryd.ntmps99
  go_wp2_with fail
  refine HR.out.mono ?_
  rintro e w1 ⟨rfl, b1, rest1, h1, h2, h3, h4⟩
  have hy1 := HY.out.away HX.out hp hb h4
  have hbn : b' ≠ b1 := by have := HY.out.lt.2; omega
  have c3 := h1.cell
  rw [noughts_length] at c3 h3
  have c4 := hy1.cell
  obtain ⟨w2, hrun, r2, k2⟩ := run_copy_words w1.drew 3 (some ⟨b1, 0, none⟩) (some ⟨b', 0, none⟩) ys.length (ys.length + rest1.length) ys.length (ys.length + rest'.length) b1 0 ((noughts ys.length ++ rest1).map U) 68 h1.2.1 ys hy1.drew.words rfl ys.length (by omega) (fun _ => rfl) (by simp [noughts])
  have hrow : splice ((noughts ys.length ++ rest1).map U) 0 ((ys.take ys.length).map U) = (ys ++ rest1).map U := by
    rw [List.take_of_length_le (Nat.le_refl _)]
    unfold splice
    rw [List.map_append, List.length_map, List.take_zero, List.nil_append, Nat.zero_add, List.drop_append_of_le_length (by simp [noughts]), List.drop_eq_nil_of_le (by simp [noughts]), List.nil_append, List.map_append]
  rw [hrow] at r2
  have hhd := h1.1
  rw [noughts_length] at hhd
  have hfin : Sized p b ys (xs.length + rest.length) w (.returned (.pointer (some ⟨p, 0, none⟩))) w2 :=
    ⟨rfl, b1, rest1, ⟨(hhd.drew).kept k2 h1.pb, r2, HY.out.2.2.1, h1.2.2.2⟩, h2.imp (fun e => ⟨e.1, by have := e.2; rw [noughts_length] at this; exact this⟩) (fun e => ⟨e.1, by have := e.2; rw [noughts_length] at this; exact this⟩), h3, by
      refine (h4.drew).step k2 (fun i hi e => ?_)
      unfold OneBlk at e
      rcases h2 with h2 | h2
      · exact .inr (e.trans h2.1)
      · omega⟩
  have FIN := Lib.hid hfin
  clear h1 h2 h4 hy1 r2 k2 hrow hhd hfin HR c2
  go_wp2_with fail
  go_still_tail 8, (by kernel_rfl)
  change wpList _ _ _ _ _ w1.drew
  go_wp2_with fail
  go_ret
  exact FIN.out

/-- A modulus in memory: block q; its number in blocks pn, bn. -/
def ModAt (w : World) (q pn bn : Nat) (ms mr : List Nat) (od : Bool) (mi : Nat) (rv : Value) : Prop :=
  Blk w q 123 #[.pointer (some ⟨pn, 0, none⟩), .bool od, .int .u64 mi, rv] ∧ NatAt w pn bn ms mr

section
variable {w w' : World} {S : Nat → Prop} {q pn bn : Nat} {ms mr : List Nat} {od : Bool} {mi : Nat} {rv : Value}
theorem ModAt.kept (h : ModAt w q pn bn ms mr od mi rv) (k : Kept S w w') (h1 : ¬ S q) (h2 : ¬ S pn) (h3 : ¬ S bn) : ModAt w' q pn bn ms mr od mi rv := ⟨h.1.kept k h1, h.2.kept k h2 h3⟩
theorem ModAt.still (h : ModAt w q pn bn ms mr od mi rv) (k : Kept NoBlk w w') : ModAt w' q pn bn ms mr od mi rv := h.kept k (fun e => e) (fun e => e) (fun e => e)
theorem ModAt.away1 {p b : Nat} {xs rest : List Nat} (h : ModAt w q pn bn ms mr od mi rv) (hx : NatAt w p b xs rest) (hb : bn ≠ b) (k : Kept (OneBlk b) w w') : ModAt w' q pn bn ms mr od mi rv :=
  ⟨h.1.kept k (h.1.ne_ hx.2.1 (by decide)), h.2.away1 hx hb k⟩
theorem ModAt.away {p b : Nat} {xs rest : List Nat} (h : ModAt w q pn bn ms mr od mi rv) (hx : NatAt w p b xs rest) (hp : pn ≠ p) (hb : bn ≠ b) (k : Kept (Both p b) w w') : ModAt w' q pn bn ms mr od mi rv :=
  ⟨h.1.kept k (fun e => e.elim (h.1.ne_ hx.1 (by decide)) (h.1.ne_ hx.2.1 (by decide))), h.2.away hx hp hb k⟩
theorem ModAt.ptr (h : ModAt w q pn bn ms mr od mi rv) : w.cell? ⟨q, 0, none⟩ = some (.pointer (some ⟨pn, 0, none⟩)) := h.1.cellIs rfl
end

theorem resetFor_any (p b q pn bn : Nat) (xs rest ms mr : List Nat) (od : Bool) (mi : Nat) (rv : Value) (w : World) (hx : NatAt w p b xs rest) (hm : ModAt w q pn bn ms mr od mi rv) (hn : ms.length ≤ 1000000) :
    Calls Tryd.prog 81 #[.pointer (some ⟨p, 0, none⟩), .pointer (some ⟨q, 0, none⟩)] w (Sized p b (noughts ms.length) (xs.length + rest.length) w) := by
  have c1 := hm.ptr
  have c2 := hm.2.cell
  have HR := Lib.hid (reset_any p b ms.length xs rest w hx hn)
  clear hx hm
  go_enter Tryd.func81, Tryd.ntmps81
  go_wp2_with fail
  refine HR.out.mono ?_
  rintro e w1 ⟨rfl, h⟩
  have H := Lib.hid h
  clear h HR
  go_wp2_with fail
  go_ret
  exact ⟨rfl, H.out⟩

theorem expandFor_any (p b q pn bn : Nat) (xs rest ms mr : List Nat) (od : Bool) (mi : Nat) (rv : Value) (w : World) (hx : NatAt w p b xs rest) (hm : ModAt w q pn bn ms mr od mi rv) (hl : xs.length ≤ ms.length) (hn : ms.length ≤ 1000000) :
    Calls Tryd.prog 84 #[.pointer (some ⟨p, 0, none⟩), .pointer (some ⟨q, 0, none⟩)] w (Sized p b (xs ++ noughts (ms.length - xs.length)) (xs.length + rest.length) w) := by
  have c1 := hm.ptr
  have c2 := hm.2.cell
  have HR := Lib.hid (expand_any p b ms.length xs rest w hx hl hn)
  clear hx hm
  go_enter Tryd.func84, Tryd.ntmps84
  go_wp2_with fail
  refine HR.out.mono ?_
  rintro e w1 ⟨rfl, h⟩
  have H := Lib.hid h
  clear h HR
  go_wp2_with fail
  go_ret
  exact ⟨rfl, H.out⟩

/-- A new number of its own: what a call that makes one leaves. -/
def Fresh (xs : List Nat) (w : World) (e : Ending) (w' : World) : Prop :=
  ∃ (p b : Nat) (rest : List Nat), e = .returned (.pointer (some ⟨p, 0, none⟩)) ∧ w.heap.size ≤ p ∧ w.heap.size ≤ b ∧ NatAt w' p b xs rest ∧ xs.length + rest.length ≤ max xs.length 32 ∧ (xs.length ≤ 32 → p = w.heap.size + 1 ∧ b = w.heap.size ∧ xs.length + rest.length = 32) ∧ Kept NoBlk w w'

theorem modNat_any (q pn bn : Nat) (ms mr : List Nat) (od : Bool) (mi : Nat) (rv : Value) (w : World) (hm : ModAt w q pn bn ms mr od mi rv) (hn : ms.length ≤ 1000000) :
    Calls Tryd.prog 68 #[.pointer (some ⟨q, 0, none⟩)] w (Fresh ms w) := by
  have HM := Lib.hid hm
  clear hm
  go_enter Tryd.func68, Tryd.ntmps68
  go_wp2_with fail
  refine (newNat_any w).mono ?_
  rintro e w1 ⟨rfl, h1, k1⟩
  have hm1 := HM.out.still k1
  have c1 := hm1.ptr
  have hs := set_any (w.heap.size + 1) w.heap.size pn bn [] (noughts 32) ms mr w1 h1 hm1.2 (by have := HM.out.2.lt; omega) (by have := HM.out.2.lt; omega) hn
  have HS := Lib.hid hs
  have K1 := Lib.hid k1
  clear h1 k1 hm1 hs
  go_wp2_with fail
  refine HS.out.mono ?_
  rintro e w2 ⟨rfl, b', rest', h1, h2, h3, h4⟩
  have hk : Kept NoBlk w w2 := K1.out.step h4 (fun i hi e => by unfold Both at e; omega)
  have hfin : Fresh ms w (.returned (.pointer (some ⟨w.heap.size + 1, 0, none⟩))) w2 := ⟨_, b', rest', rfl, by omega, by have := K1.out.size; omega, h1, by simpa [noughts] using h3, by intro h; rcases h2 with h2 | h2; exact ⟨rfl, h2.1, by simpa [noughts] using h2.2⟩; (have := h2.2; simp [noughts] at this; omega), hk⟩
  have FIN := Lib.hid hfin
  clear h1 h2 h3 h4 hk hfin HS
  go_wp2_with fail
  go_ret
  exact FIN.out

end Go.Proofs.YtmheoenieaemmaaDoor
