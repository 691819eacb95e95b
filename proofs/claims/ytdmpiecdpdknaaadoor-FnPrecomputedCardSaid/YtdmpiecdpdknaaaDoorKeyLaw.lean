/-
  The laws of keys: Decrypt and Encrypt in the laws' form.
-/
import Derived.Test.YtdmpiecdpdknaaaDoorDecW
import Derived.Test.YtdmpiecdpdknaaaDoorEncI
import Derived.Test.YtdmpiecdpdknaaaDoorBelow
namespace Go.Proofs.YtdmpiecdpdknaaaDoor
open Go.RowKit

/-- A number in a new row of L bytes, and true. -/
def DecL (L X : Nat) (w : World) (x : Ending) (w' : World) : Prop :=
  ∃ (A : Option Addr) (c g : Nat), x = .returned (.tuple #[.slice A L c, .bool true]) ∧ w.heap.size ≤ g ∧ w'.ownsRow g 5 1 (.slice A L c) L ((enc L X).map B) ∧ BytesAt w' A (enc L X) ∧ L ≤ c ∧ Kept NoBlk w w'

theorem Duo.decL {a b m L : Nat} (hd : Duo a b) (hm : Mp a * Mp b = m) (hL : (bitLen m + 7) / 8 = L) (w : World) (v : Value) (hv : KeyAt a b w v) (chi chk : Bool) (A : Option Addr) (cap x : Nat) (hx : x < m) (hA : BytesAt w A (enc L x)) :
    Calls Tryd.prog 10 #[v, .bool chi, .bool chk, .slice A L cap] w (DecL L (x ^ secOf a b % m) w) := by
  subst hm
  have hvn : num (enc L x) = x := by rw [← hL]; exact encNum (Nat.le_of_lt hx)
  have h := implDecrypt_any a b hd w v hv chi chk A cap (enc L x) hA (by rw [enc_length, hL]; exact Nat.le_refl _) (by rw [hvn]; exact hx)
  rw [hvn, enc_length] at h
  refine h.mono ?_
  rintro e w' ⟨A', c, g, rfl, hg, ho, k⟩
  rw [hL] at ho ⊢
  obtain ⟨A2, c2, h2, h3, _, h4, _⟩ := own_form ho
  cases h2
  exact ⟨A', c, g, rfl, hg, ho, h4, h3, k⟩

theorem Duo.encL {a b m L : Nat} (hd : Duo a b) (hm : Mp a * Mp b = m) (hL : (bitLen m + 7) / 8 = L) (w : World) (aN : Option Addr) (cN : Nat) (hN : BytesAt w aN (encT m)) (A : Option Addr) (cap x y : Nat) (hx : x < m) (hA : BytesAt w A (enc L x)) (hy : ∀ e, e = 65537 → x ^ e % m = y) :
    Calls Tryd.prog 12 #[.slice aN L cN, .int .i64 65537, .slice A L cap] w fun e w' => ∃ (A : Option Addr) (c : Nat), e = .returned (.tuple #[.slice A L c, .bool true]) ∧ BytesAt w' A (enc L y) ∧ Kept NoBlk w w' := by
  obtain ⟨E, hE⟩ : ∃ E : Nat, E = 65537 := ⟨_, rfl⟩
  have hEi : (65537 : Int) = (E : Int) := by omega
  have hy2 := hy E hE
  have hLe : (encT m).length = L := by rw [encT_length_bits]; exact hL
  have hvn : num (enc L x) = x := by rw [← hL]; exact encNum (Nat.le_of_lt hx)
  have hsum := hd.sum
  have hbits := hd.bits
  have hbig := hd.big
  have hm1 : 1 < m := by
    have K := hd.keyN
    have := K.p3
    have := K.pm
    omega
  have hmo : m % 2 = 1 := by rw [← hm]; exact hd.oddN
  have hl81 : L ≤ 81 := by rw [← hL, ← hm, hbits]; omega
  have h := implEncrypt_any aN A cN cap E (encT m) (enc L x) w hN (by omega) (by rw [num_encT]; exact hm1) (by rw [num_encT]; exact hmo) (by omega) (by omega) (by omega) hA (by rw [num_encT, hL, enc_length]; exact Nat.le_refl _)
  rw [hLe, enc_length, num_encT] at h
  rw [hEi]
  refine h.mono ?_
  unfold PubOut
  rw [hL, hvn, hy2, enc_length]
  rintro e w' (⟨_, A1, c1, rfl, hat, hc, _, k⟩ | ⟨hbad, _⟩)
  · exact ⟨A1, c1, rfl, hat, k⟩
  · omega

end Go.Proofs.YtdmpiecdpdknaaaDoor
