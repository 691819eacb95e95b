/-
  The laws of keys: Exported and Precomputed in the laws' form.
-/
import Derived.Test.YtdmpiecdpdknaaaDoorKeyLaw
import Derived.Test.YtdmpiecdpdknaaaDoorPreI
namespace Go.Proofs.YtdmpiecdpdknaaaDoor
open Go.RowKit

/-- What Exported tells, as far as Precomputed wants it. -/
def ExpQ (S1 S2 SP : Nat) (xU xV xI : List UInt8) (w : World) (x : Ending) (w' : World) : Prop :=
  ∃ (gl : Nat) (A0 A1 A2 A3 A4 A5 A6 : Option Addr) (l0 l1 l2 l3 c0 c1 c2 c3 c4 c5 c6 : Nat), x = .returned (.tuple #[.slice (some ⟨gl, 0, none⟩) 7 7, .int .i64 65537, .bool true]) ∧
    Blk w' gl 22 #[.slice A0 l0 c0, .slice A1 l1 c1, .slice A2 l2 c2, .slice A3 l3 c3, .slice A4 S1 c4, .slice A5 S2 c5, .slice A6 SP c6] ∧
    BytesAt w' A4 xU ∧ BytesAt w' A5 xV ∧ BytesAt w' A6 xI ∧ Kept NoBlk w w'

theorem Duo.expre {a b m L : Nat} (hd : Duo a b) (hm : Mp a * Mp b = m) (hL : (bitLen m + 7) / 8 = L) :
    ∃ (S1 S2 SP : Nat) (xU xV xI : List UInt8),
      (∀ (w : World) (v : Value), KeyAt a b w v → Calls Tryd.prog 13 #[v] w (ExpQ S1 S2 SP xU xV xI w)) ∧
      ∀ (w : World) (v : Value), KeyAt a b w v → ∀ (aU aV aI A : Option Addr) (cU cV cI cap x : Nat), x < m → BytesAt w aU xU → BytesAt w aV xV → BytesAt w aI xI → BytesAt w A (enc L x) →
        Calls Tryd.prog 14 #[v, .slice aU S1 cU, .slice aV S2 cV, .slice aI SP cI, .slice A L cap] w (DecL L (x ^ secOf a b % m) w) := by
  subst hm
  have K := hd.keyN
  have mb := K.mb
  have lN : (encT (Mp a * Mp b)).length ≤ 256 := by rw [encT_length_bits]; omega
  have lD : (encT (secOf a b)).length ≤ 256 := by
    rw [encT_length_bits]
    have := bitLen_mono (Nat.le_of_lt K.dm)
    omega
  have lP : (mers a).length ≤ 256 := by have := hd.la; have := hd.sum; omega
  have lQ : (mers b).length ≤ 256 := by have := hd.lb; have := hd.sum; omega
  refine ⟨(bitLen (Mp a - 1) + 7) / 8, (bitLen (Mp b - 1) + 7) / 8, (bitLen (Mp a) + 7) / 8, enc ((bitLen (Mp a - 1) + 7) / 8) (secOf a b % (Mp a - 1)), enc ((bitLen (Mp b - 1) + 7) / 8) (secOf a b % (Mp b - 1)), enc ((bitLen (Mp a) + 7) / 8) (qiOf (Mp a) (Mp b)), ?_, ?_⟩
  · intro w v hv
    refine (exported_nm w (Mp a * Mp b) 65537 (secOf a b) (Mp a) (Mp b) (secOf a b % (Mp a - 1)) (secOf a b % (Mp b - 1)) (qiOf (Mp a) (Mp b)) (mers a) (mers b) v hv hd.na hd.nb lN lD lP lQ K rfl).mono ?_
    rintro e w' ⟨gl, A0, A1, A2, A3, A4, A5, A6, c0, c1, c2, c3, c4, c5, c6, rfl, _, hb, _, _, _, _, t4, t5, t6, _, _, _, _, _, _, _, k⟩
    exact ⟨gl, A0, A1, A2, A3, A4, A5, A6, _, _, _, _, c0, c1, c2, c3, c4, c5, c6, rfl, hb, t4, t5, t6, k⟩
  · intro w v hv aU aV aI A cU cV cI cap x hx hU hV hI hA
    have hvn : num (enc L x) = x := by rw [← hL]; exact encNum (Nat.le_of_lt hx)
    have h := precomputed_nm w (Mp a * Mp b) 65537 (secOf a b) (Mp a) (Mp b) (secOf a b % (Mp a - 1)) (secOf a b % (Mp b - 1)) (qiOf (Mp a) (Mp b)) (x ^ secOf a b % (Mp a * Mp b)) (mers a) (mers b) v hv aU aV aI A cU cV cI cap (enc L x) hU hV hI hA (by rw [enc_length, hL]; exact Nat.le_refl _) hd.na hd.nb lN lD lP lQ K
      (fun w pk hpk A cap hA hc => by
        have h := hd.decC 65537 rfl w pk hpk A cap (enc L x) false hA hc (by rw [enc_length, hL]; exact Nat.le_refl _) (by rw [hvn]; exact hx)
        rw [hvn] at h
        exact h)
    rw [enc_length] at h
    refine h.mono ?_
    rintro e w' ⟨A', c, g, rfl, hg, ho, k⟩
    rw [hL] at ho ⊢
    obtain ⟨A2, c2, h2, h3, _, h4, _⟩ := own_form ho
    cases h2
    exact ⟨A', c, g, rfl, hg, ho, h4, h3, k⟩

end Go.Proofs.YtdmpiecdpdknaaaDoor
