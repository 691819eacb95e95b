/-
  impl.Decrypt: the walk.
-/
import Derived.Test.YtdmpiecdpdknaaaGreatDoorDecI
namespace Go.Proofs.YtdmpiecdpdknaaaGreatDoor
open Go.RowKit

/-- From the private operation on: the row that either hands back. -/
theorem DecOut.either {m X : Nat} {w1 : World} {g : Nat} (hb : Blk w1 g 5 ((enc ((bitLen m + 7) / 8) X).map B).toArray) (hm : bitLen m < 2048) :
    Calls Tryz.prog 19 #[.slice (some ⟨g, 0, none⟩) ((bitLen m + 7) / 8) ((bitLen m + 7) / 8), .nilIface] w1 (DecB m X w1) := by
  have h := either_ok (some ⟨g, 0, none⟩) ((bitLen m + 7) / 8) (enc ((bitLen m + 7) / 8) X) w1 hb.bytes (by rw [enc_length]; omega)
  rw [enc_length] at h
  refine h.mono ?_
  rintro x w2 ⟨v, rfl, hown, k⟩
  obtain ⟨A, c, rfl, _⟩ := own_form hown
  exact ⟨A, c, w1.heap.size, rfl, Nat.le_refl _, hown, k⟩
theorem DecB.back {m X : Nat} {w w1 w2 : World} {x : Ending} (h : DecB m X w1 x w2) (k : Kept NoBlk w w1) : DecB m X w x w2 := by
  obtain ⟨A, c, g, rfl, hg, ho, k2⟩ := h
  exact ⟨A, c, g, rfl, Nat.le_trans k.size hg, ho, k.none k2⟩

theorem PrivNo.still {w w' : World} {pk m e d : Nat} (h : PrivNo w pk m e d) (k : Kept NoBlk w w') : PrivNo w' pk m e d := by
  obtain ⟨qN, pN, rN, nN, bd, h1, h2, h3⟩ := h
  exact ⟨qN, pN, rN, nN, bd, h1.kept k (fun e => e), h2.still k, h3.still k⟩
theorem PrivAt.still {w w' : World} {pk m e d p q dp dq qi : Nat} (h : PrivAt w pk m e d p q dp dq qi) (k : Kept NoBlk w w') : PrivAt w' pk m e d p q dp dq qi := by
  obtain ⟨qN, pN, rN, nN, qP, pP, rP, nP, qQ, pQ, rQ, nQ, bd, bi, gP, gQ, kP, kQ, h1, h2, h3, h4, h5, h6, h7, h8⟩ := h
  exact ⟨qN, pN, rN, nN, qP, pP, rP, nP, qQ, pQ, rQ, nQ, bd, bi, gP, gQ, kP, kQ, h1.kept k (fun e => e), h2.still k, h3.still k, h4.still k, h5.still k, h6.still k, h7.still k, h8.still k⟩

end Go.Proofs.YtdmpiecdpdknaaaGreatDoor
