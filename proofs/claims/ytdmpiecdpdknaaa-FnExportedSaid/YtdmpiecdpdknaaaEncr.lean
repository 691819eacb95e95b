/-
  rsa.encrypt, ZZPublic.
-/
import Derived.Test.YtdmpiecdpdknaaaGi
import Derived.Deep.RegionHeld3
namespace Go.Proofs.Ytdmpiecdpdknaaa
open Go.RowKit

/-- A public key in memory (alone or within a private one): its modulus m of n words, its exponent e. -/
def Pub (w : World) (pp q pn pr n m : Nat) (e : Nat) : Prop := pp < w.heap.size ∧ w.cell? ⟨pp, 0, none⟩ = some (.pointer (some ⟨q, 0, none⟩)) ∧ w.cell? ⟨pp, 1, none⟩ = some (.int .i64 (e : Int)) ∧ Md w q pn pr n m
theorem Pub.still {w w' : World} {pp q pn pr n m e : Nat} (h : Pub w pp q pn pr n m e) (k : Kept NoBlk w w') : Pub w' pp q pn pr n m e :=
  ⟨Nat.lt_of_lt_of_le h.1 k.size, (k.cell (p := ⟨pp, 0, none⟩) h.1 (fun e => e)).trans h.2.1, (k.cell (p := ⟨pp, 1, none⟩) h.1 (fun e => e)).trans h.2.2.1, h.2.2.2.still k⟩
theorem Pub.cells {w : World} {pp q pn pr n m e : Nat} (h : Pub w pp q pn pr n m e) : w.cell? ⟨pp, 0, none⟩ = some (.pointer (some ⟨q, 0, none⟩)) ∧ w.cell? ⟨pp, 1, none⟩ = some (.int .i64 (e : Int)) := ⟨h.2.1, h.2.2.1⟩
theorem Pub.md {w : World} {pp q pn pr n m e : Nat} (h : Pub w pp q pn pr n m e) : Md w q pn pr n m := h.2.2.2

theorem lt_Pb_size {v m : Nat} (h : v < m) : v < Pb ((bitLen m + 7) / 8) := by
  rw [Pb_two]
  have a := (bitLen_le m (8 * ((bitLen m + 7) / 8))).1 (by omega)
  omega

theorem BytesAt.below {w : World} {A : Option Addr} {bs : List UInt8} (h : BytesAt w A bs) : ∀ a, A = some a → bs ≠ [] → a.block < w.heap.size := by
  rintro a rfl h0
  obtain ⟨b, off, e, hb, _⟩ := h.at_ (k := 0) (by cases bs with | nil => exact absurd rfl h0 | cons x xs => simp)
  cases e; exact hb

/-- What the public operation leaves. -/
def Encr (n m e : Nat) (bs : List UInt8) (w : World) (en : Ending) (w' : World) : Prop :=
  (num bs < m ∧ bs.length ≤ 8 * n ∧ ∃ g, en = .returned (.tuple #[.slice (some ⟨g, 0, none⟩) ((bitLen m + 7) / 8) ((bitLen m + 7) / 8), .nilIface]) ∧ w.heap.size ≤ g ∧ Blk w' g 5 ((enc ((bitLen m + 7) / 8) (num bs ^ e % m)).map B).toArray ∧ Kept NoBlk w w') ∨
  ((m ≤ num bs ∨ 8 * n < bs.length) ∧ ∃ a, en = .returned (.tuple #[.slice none 0 0, .iface 89 (.pointer (some a))]) ∧ Kept NoBlk w w')

end Go.Proofs.Ytdmpiecdpdknaaa
