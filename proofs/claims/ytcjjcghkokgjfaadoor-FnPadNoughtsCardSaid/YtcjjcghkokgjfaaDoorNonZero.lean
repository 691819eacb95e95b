/-
  io.ReadFull over a bytes.Reader, and nonZeroRandomBytes.
-/
import Derived.Test.YtcjjcghkokgjfaaDoorReadFull
import Derived.Test.YtcjjcghkokgjfaaDoorBits
import Derived.Deep.LoopGhost
namespace Go.Proofs.YtcjjcghkokgjfaaDoor
open Go.RowKit

theorem readFull_any (r g off m cp : Nat) (L : List Value) (A : Option Addr) (c : Nat) (xs : List UInt8) (i : Nat) (ea ua : Addr) (w : World) (hcp : m ≤ cp) (hm2 : m ≤ 2147483647) (hr : Rdr w r A c xs i) (hi : i ≤ xs.length)
    (hg : Blk w g 5 L.toArray) (hL : off + m ≤ L.length) (hA : ∀ a, A = some a → a.block ≠ g) (hG : Globs w ea ua)
    (hrb : 1 < r ∧ 2 < r) (hgb : 1 < g ∧ 2 < g) :
    Calls Tryd.prog 25 #[.iface 44 (.pointer (some ⟨r, 0, none⟩)), .slice (some ⟨g, off, none⟩) m cp] w (FullPost r g off m L A c xs i w) := by
  have h := atLeast_any r g off m cp L A c xs i ea ua w hcp hm2 hr hi hg hL hA hG hrb hgb
  have H := Lib.hid h
  clear h hr hg hA hG hrb hgb
  go_enter Tryd.func25, Tryd.ntmps25
  go_wp2_with fail
  refine H.out.mono ?_
  rintro e w1 (⟨h1, rfl, h2⟩ | ⟨h1, j, ve, rfl, h2⟩)
  · have H2 := Lib.hid h2
    clear h2
    go_wp2_with fail
    go_ret2
    exact .inl ⟨h1, rfl, H2.out⟩
  · have H2 := Lib.hid h2
    clear h2
    go_wp2_with fail
    go_ret2
    exact .inr ⟨h1, j, ve, rfl, H2.out⟩

/-- The bytes that are wanted, as they come. -/
def wanted (xs : List UInt8) (i m : Nat) : List UInt8 := (xs.drop i).take m

/-- What nonZeroRandomBytes leaves: bytes that are not nought, those themselves where none is; or an error, where they are too few or one is nought. -/
def NZPost (g off m : Nat) (L : List Value) (r : Nat) (xs : List UInt8) (i : Nat) (w : World) (e : Ending) (w' : World) : Prop :=
  (i + m ≤ xs.length ∧ e = .returned .nilIface ∧ ∃ ys : List UInt8, ys.length = m ∧ (∀ x ∈ ys, x ≠ 0) ∧ ((∀ x ∈ wanted xs i m, x ≠ 0) → ys = wanted xs i m) ∧
    Blk w' g 5 (splice L off (ys.map B)).toArray ∧ Kept (rg r g) w w') ∨
  ((xs.length < i + m ∨ ∃ x ∈ wanted xs i m, x = 0) ∧ ∃ ve : Addr, e = .returned (.iface 63 (.pointer (some ve))) ∧ Kept (rg r g) w w')

/-- The state of its loops: the first k bytes are not nought. -/
def NZSt (g off m : Nat) (L : List Value) (r : Nat) (A : Option Addr) (c : Nat) (xs : List UInt8) (i : Nat) (ea ua : Addr) (w : World) (k : Nat) (ys : List UInt8) (p : Nat) (wr : World) : Prop :=
  ys.length = m ∧ p ≤ xs.length ∧ Rdr wr r A c xs p ∧ Blk wr g 5 (splice L off (ys.map B)).toArray ∧ Kept (rg r g) w wr ∧ Globs wr ea ua ∧ ((∀ x ∈ wanted xs i m, x ≠ 0) → ys = wanted xs i m) ∧
    (∀ j x, j < k → ys[j]? = some x → x ≠ 0)

def posOf (r : Nat) (w : World) : Nat := match w.cell? ⟨r, 1, none⟩ with | some (.int _ n) => n.toNat | _ => 0
theorem Rdr.pos {w : World} {r : Nat} {A : Option Addr} {c : Nat} {xs : List UInt8} {i : Nat} (h : Rdr w r A c xs i) : posOf r w = i := by
  obtain ⟨⟨p, hb⟩, _⟩ := h
  unfold posOf
  rw [hb.cellIs (i := 1) rfl]
  simp

section
variable {g off m : Nat} {L : List Value} {r : Nat} {A : Option Addr} {c : Nat} {xs : List UInt8} {i : Nat} {ea ua : Addr} {w : World} {k : Nat} {ys : List UInt8} {p : Nat} {wr : World}
theorem NZSt.cell (h : NZSt g off m L r A c xs i ea ua w k ys p wr) (hL : off + m ≤ L.length) (hk : k < m) : ∃ x, ys[k]? = some x ∧ wr.cell? ⟨g, off + k, none⟩ = some (.int .u8 (x.toNat : Int)) := by
  have hk2 : k < ys.length := by rw [h.1]; exact hk
  refine ⟨ys[k], List.getElem?_eq_getElem hk2, ?_⟩
  refine h.2.2.2.1.cellIs ?_
  rw [List.getElem?_toArray, getElem?_splice _ _ _ (by simp [h.1]; exact hL), if_pos (by simp; omega)]
  rw [show off + k - off = k by omega, List.getElem?_map, List.getElem?_eq_getElem hk2]
  rfl
theorem NZSt.next (h : NZSt g off m L r A c xs i ea ua w k ys p wr) {x : UInt8} (hx : ys[k]? = some x) (h0 : x ≠ 0) : NZSt g off m L r A c xs i ea ua w (k + 1) ys p wr :=
  ⟨h.1, h.2.1, h.2.2.1, h.2.2.2.1, h.2.2.2.2.1, h.2.2.2.2.2.1, h.2.2.2.2.2.2.1, fun j y hj hy => by
    rcases Nat.lt_or_ge j k with h1 | h1
    · exact h.2.2.2.2.2.2.2 j y h1 hy
    · obtain rfl : j = k := by omega
      rw [hx] at hy
      exact Option.some.inj hy ▸ h0⟩
theorem NZSt.zero (h : NZSt g off m L r A c xs i ea ua w k ys p wr) (hx : ys[k]? = some 0) : ¬ ∀ x ∈ wanted xs i m, x ≠ 0 := fun hn => by
  have e := h.2.2.2.2.2.2.1 hn
  exact hn 0 (by rw [← e]; exact List.mem_of_getElem? hx) rfl
theorem NZSt.again (h : NZSt g off m L r A c xs i ea ua w k ys p wr) (hx : ys[k]? = some 0) (hL : off + m ≤ L.length) (hk : k < m) {w1 w2 : World} {v y : UInt8}
    (hb : Blk w1 g 5 (splice (splice L off (ys.map B)) (off + k) [B v]).toArray) (hr : Rdr w1 r A c xs (p + 1)) (hkp : Kept (rg r g) wr w1) (hG : Globs w1 ea ua) (hgr : g ≠ r) (hA : ∀ a, A = some a → a.block ≠ g)
    (hp : p + 1 ≤ xs.length) (hgb : 1 < g ∧ 2 < g) (h2 : w2 = w1.setCell ⟨g, off + k, none⟩ (B y)) : NZSt g off m L r A c xs i ea ua w k (ys.set k y) (p + 1) w2 := by
  subst h2
  have hlen : (ys.map B).length = m := by simp [h.1]
  have hk1 : Kept (OneBlk g) w1 (w1.setCell ⟨g, off + k, none⟩ (B y)) := (Kept.refl _ _).setOne _ _
  rw [splice_one L (ys.map B) off k (B v) (by omega) (by omega)] at hb
  have hb2 := hb.set_ (off + k) (B y)
  have hres : Blk (w1.setCell ⟨g, off + k, none⟩ (B y)) g 5 (splice L off ((ys.set k y).map B)).toArray := by
    have e : (splice L off ((ys.map B).set k (B v))).toArray.setIfInBounds (off + k) (B y) = (splice L off ((ys.set k y).map B)).toArray := by
      rw [List.setIfInBounds_toArray, splice_set L _ off k _ (by simp [h.1]; exact hk) (by simp [h.1]; exact hL), List.set_set, List.map_set]
    rw [← e]; exact hb2
  refine ⟨by simp [h.1], hp, ?_, hres, (h.2.2.2.2.1.trans hkp).step hk1 (fun _ _ e => .inr e), hG.kept hk1 (fun e => by unfold OneBlk at e; omega) (fun e => by unfold OneBlk at e; omega), fun hn => absurd hn (h.zero hx), ?_⟩
  · obtain ⟨⟨q, hq⟩, ha, hc, hl⟩ := hr
    exact ⟨⟨q, hq.kept hk1 (fun e => hgr e.symm)⟩, ha.kept hk1 (fun a ea => hA a ea), hc, hl⟩
  · intro j y hj hy
    rw [List.getElem?_set, if_neg (by omega)] at hy
    exact h.2.2.2.2.2.2.2 j y hj hy
end

set_option maxHeartbeats 3200000 in
theorem nonZero_any (r g off m cp : Nat) (L : List Value) (A : Option Addr) (c : Nat) (xs : List UInt8) (i : Nat) (ea ua : Addr) (w : World) (hcp : m ≤ cp) (hm2 : m ≤ 1000000000) (hr : Rdr w r A c xs i) (hi : i ≤ xs.length)
    (hg : Blk w g 5 L.toArray) (hL : off + m ≤ L.length) (hA : ∀ a, A = some a → a.block ≠ g) (hG : Globs w ea ua)
    (hrb : 1 < r ∧ 2 < r) (hgb : 1 < g ∧ 2 < g) :
    Calls Tryd.prog 21 #[.slice (some ⟨g, off, none⟩) m cp, .iface 44 (.pointer (some ⟨r, 0, none⟩))] w (NZPost g off m L r xs i w) := by
  have h := readFull_any r g off m cp L A c xs i ea ua w hcp (by omega) hr hi hg hL hA hG hrb hgb
  have H := Lib.hid h
  have HRB := Lib.hid hrb
  have HGB := Lib.hid hgb
  have HA := Lib.hid hA
  have HG := Lib.hid hG
  clear h hr hg hA hG hrb hgb
  go_enter Tryd.func21, Tryd.ntmps21
  go_wp2_with fail
  refine H.out.mono ?_
  rintro e w1 (⟨h1, rfl, h2, h3, h4⟩ | ⟨h1, j, ve, rfl, h2⟩)
  · have hst : NZSt g off m L r A c xs i ea ua w 0 (wanted xs i m) (i + m) w1 :=
      ⟨by unfold wanted; simp; omega, h1, h3, h2, h4, HG.out.kept h4 (fun e => by have := HRB.out; have := HGB.out; unfold rg at e; omega) (fun e => by have := HRB.out; have := HGB.out; unfold rg at e; omega), fun _ => rfl, fun j x hj => absurd hj (by omega)⟩
    have HST := Lib.hid hst
    clear hst h2 h3 h4 H
    go_wp2_with fail
    go_loopw [4, 5] (fun er n wr => ∃ (k : Nat) (ys : List UInt8) (p : Nat), k ≤ m ∧ er = .nilIface ∧ n = .int .i64 k ∧ NZSt g off m L r A c xs i ea ua w k ys p wr) (fun _ n _ => m - (intOf n).toNat)
    case atStart => exact ⟨0, _, _, Nat.zero_le _, rfl, rfl, HST.out⟩
    case round =>
      obtain ⟨k, ys, p, hkm, rfl, rfl, hst⟩ := hrel
      have HST2 := Lib.hid hst
      clear hst HST
      by_cases hlt : k < m
      · go_wp2_with fail
        obtain ⟨wo, rfl⟩ : ∃ wo : World, wo = wr := ⟨_, rfl⟩
        go_loopw [4] (fun er wr => ∃ (ys : List UInt8) (p : Nat), er = .nilIface ∧ NZSt g off m L r A c xs i ea ua w k ys p wr) (fun _ wr => xs.length - posOf r wr)
        case atStart => exact ⟨ys, p, rfl, HST2.out⟩
        case round =>
          obtain ⟨zs, q, rfl, hst⟩ := hrel
          obtain ⟨x, hx, hcell⟩ := hst.cell hL hlt
          have HST3 := Lib.hid hst
          have HX := Lib.hid hx
          clear hst hx HST2
          by_cases hx0 : (x.toNat : Int) = 0
          · have hxb : ((x.toNat : Int) == 0) = true := beq_iff_eq.2 hx0
            have hcon := readFull_any r g (off + k) 1 (cp - k) (splice L off (zs.map B)) A c xs q ea ua wr (by omega) (by omega) HST3.out.2.2.1 HST3.out.2.1 HST3.out.2.2.2.1 (by rw [length_splice _ _ _ (by simp [HST3.out.1]; exact hL)]; omega) HA.out HST3.out.2.2.2.2.2.1 HRB.out HGB.out
            have HCON := Lib.hid hcon
            have hcj : ¬ cp = k := by omega
            have HX0 := Lib.hid hx0
            clear hcon hx0
            have hz0 : zs[k]? = some 0 := by
              have := HX.out
              rw [byte_zero.1 HX0.out] at this
              exact this
            have HZ0 := Lib.hid hz0
            clear hz0
            go_wp2_with fail
            refine HCON.out.mono ?_
            rintro e w2 (⟨f1, rfl, f2, f3, f4⟩ | ⟨f1, j, ve, rfl, f4⟩)
            · have hql : q < xs.length := by omega
              obtain ⟨v, hv⟩ : ∃ v, v = xs[q] := ⟨_, rfl⟩
              have hone : ((xs.drop q).take 1).map B = [B v] := by
                rw [List.drop_eq_getElem_cons hql, hv]; rfl
              rw [hone] at f2
              have hgr : g ≠ r := by
                obtain ⟨⟨_, hb⟩, _⟩ := f3
                exact f2.ne_ hb (by decide)
              have hc2 : w2.cell? ⟨g, off + k, none⟩ = some (.int .u8 (v.toNat : Int)) := f2.cellIs (by
                rw [List.getElem?_toArray, getElem?_splice _ _ _ (by rw [length_splice _ _ _ (by simp [HST3.out.1]; exact hL)]; simp; omega), if_pos (by simp)]
                simp [B])
              have hf2 := f2.frozen (off + k)
              have hxor := xor_u8 v 66
              rw [show (((66 : UInt8).toNat : Nat) : Int) = 66 from rfl] at hxor
              obtain ⟨y, hy⟩ : ∃ y, y = v ^^^ 66 := ⟨_, rfl⟩
              rw [← hy] at hxor
              have hagain := fun w3 h3 => HST3.out.again HZ0.out hL hlt f2 f3 f4 (HST3.out.2.2.2.2.2.1.kept f4 (fun e => by have := HRB.out; have := HGB.out; unfold rg at e; omega) (fun e => by have := HRB.out; have := HGB.out; unfold rg at e; omega)) hgr HA.out (by omega) HGB.out (y := y) (w2 := w3) h3
              have HAG := Lib.hid hagain
              clear hagain hv hone f2 f3 f4 hgr hy
              go_wp2_with fail
              go_roundw
              case rel => exact ⟨_, _, rfl, HAG.out _ rfl⟩
              case measure =>
                have p1 := (HAG.out _ rfl).2.2.1.pos
                have p2 := HST3.out.2.2.1.pos
                unfold B at p1
                rw [p1, p2]; omega
            · have H4 := Lib.hid f4
              clear f4
              go_wp2_with fail
              go_ret
              refine .inr ⟨.inr ?_, ve, rfl, HST3.out.2.2.2.2.1.trans H4.out⟩
              have hn := HST3.out.zero HZ0.out
              apply Classical.byContradiction
              intro hno
              exact hn (fun x hx e => hno ⟨x, hx, e⟩)
          · have hxb : ((x.toNat : Int) == 0) = false := beq_eq_false_iff_ne.2 hx0
            have HX0 := Lib.hid hx0
            clear hx0
            go_wp2_with fail
            go_roundw
            case rel => exact ⟨k + 1, zs, q, by omega, rfl, by go_num, HST3.out.next HX.out (fun e => HX0.out (by rw [e]; rfl))⟩
            case measure => simp [intOf]; omega
      · obtain rfl : k = m := by omega
        go_wp2_with fail
        go_ret
        obtain ⟨s1, s2, s3, s4, s5, s6, s7, s8⟩ := HST2.out
        refine .inl ⟨h1, rfl, ys, s1, ?_, s7, s4, s5⟩
        intro x hx
        obtain ⟨j, hj, rfl⟩ := List.mem_iff_getElem.1 hx
        exact s8 j _ (by omega) (List.getElem?_eq_getElem hj)
  · have H2 := Lib.hid h2
    clear h2 H
    go_wp2_with fail
    go_ret
    exact .inr ⟨.inl h1, ve, rfl, H2.out⟩

end Go.Proofs.YtcjjcghkokgjfaaDoor
