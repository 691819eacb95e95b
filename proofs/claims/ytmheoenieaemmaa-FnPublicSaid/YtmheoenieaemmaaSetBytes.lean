/-
  bigmod.Nat.SetBytes, told by values.
-/
import Derived.Test.YtmheoenieaemmaaOps
namespace Go.Proofs.Ytmheoenieaemmaa
open Go.RowKit

/-- Bytes that lie outside of a number's blocks. -/
def OffNm (A : Option Addr) (bs : List UInt8) (p : Nat) : Prop := ∀ a, A = some a → bs ≠ [] → a.block ≠ p ∧ a.block ≠ p - 1
theorem BytesAt.at2 {w w' : World} {A : Option Addr} {bs : List UInt8} {p : Nat} (h : BytesAt w A bs) (k : Kept (At2 p) w w') (ho : OffNm A bs p) : BytesAt w' A bs := by
  by_cases h0 : bs = []
  · subst h0; exact .inl rfl
  · exact h.kept k (fun a e hs => by have := ho a e h0; unfold At2 at hs; omega)
theorem Nm.nought {w : World} {p n : Nat} (h : Nm w p n 0) : ∃ rest, NatAt w p (p - 1) (noughts n) rest ∧ 1 ≤ p ∧ n + rest.length = 32 := by
  obtain ⟨xs, rest, a, b, c, d, e⟩ := h
  have : xs = noughts n := val_inj a.2.2.1 (noughts_wd n) (by rw [noughts_length]; exact c) (by rw [e, val_noughts])
  subst this
  exact ⟨rest, a, b, d⟩

/-- What setBytes leaves, told by values. -/
theorem setBytesRaw_nm (p n : Nat) (A : Option Addr) (cap : Nat) (bs : List UInt8) (w : World) (hx : Nm w p n 0) (hb : BytesAt w A bs) (hc : bs.length ≤ cap) (hL : bs.length ≤ 4294967296) :
    Calls Try.prog 61 #[.pointer (some ⟨p, 0, none⟩), .slice A bs.length cap] w fun e w' =>
      ∃ v z, e = .returned v ∧ Nm w' p n z ∧ Kept (At2 p) w w' ∧ (bs.length ≤ 8 * n → v = .nilIface ∧ z = num bs) ∧ (8 * n < bs.length → IsErr v) := by
  have hn := hx.bound.2
  obtain ⟨rest, x1, x2, x3⟩ := hx.nought
  refine (setBytes_any p (p - 1) n rest A cap bs w x1 hb (by omega) hc hL).mono ?_
  rintro e w' ⟨v, xs, rfl, a1, a2, a3, a4, a5⟩
  exact ⟨v, val xs, rfl, ⟨xs, rest, a2, x2, a1, x3, rfl⟩, At2.one p a3, a4, a5⟩

/-- What SetBytes leaves. -/
def SetBy (p n m : Nat) (bs : List UInt8) (w : World) (e : Ending) (w' : World) : Prop :=
  (num bs < m ∧ bs.length ≤ 8 * n ∧ e = .returned (.tuple #[.pointer (some ⟨p, 0, none⟩), .nilIface]) ∧ Nm w' p n (num bs) ∧ Kept (At2 p) w w') ∨
  ((m ≤ num bs ∨ 8 * n < bs.length) ∧ ∃ a, e = .returned (.tuple #[.pointer none, .iface 99 (.pointer (some a))]) ∧ (∃ z, Nm w' p n z) ∧ Kept (At2 p) w w')

theorem setBytes_nm (p q pn pr n0 v0 n m : Nat) (A : Option Addr) (cap : Nat) (bs : List UInt8) (w : World) (hx : Nm w p n0 v0) (hm : Md w q pn pr n m) (hpn : pn ≠ p) (hpr : pr ≠ p) (hb : BytesAt w A bs) (ho : OffNm A bs p) (hc : bs.length ≤ cap) (hL : bs.length ≤ 4294967296) :
    Calls Try.prog 50 #[.pointer (some ⟨p, 0, none⟩), .slice A bs.length cap, .pointer (some ⟨q, 0, none⟩)] w (SetBy p n m bs w) := by
  have hr := resetFor_nm p q pn pr n0 v0 n m w hx hm
  have HR := Lib.hid hr
  have HX := Lib.hid hx
  have HM := Lib.hid hm
  have HB := Lib.hid hb
  have HO := Lib.hid ho
  clear hr hx hm hb ho
  go_enter Try.func50, Try.ntmps50
  go_wp2_with fail
  refine HR.out.mono ?_
  rintro e w1 ⟨rfl, h1, k1⟩
  have hs := setBytesRaw_nm p n A cap bs w1 h1 (HB.out.at2 k1 HO.out) hc hL
  have hm1 := HM.out.away HX.out hpn hpr k1
  have HS := Lib.hid hs
  have H1 := Lib.hid h1
  have K1 := Lib.hid k1
  have HM1 := Lib.hid hm1
  clear hs h1 k1 hm1 HR
  go_wp2_with fail
  refine HS.out.mono ?_
  rintro e w2 ⟨v, z, rfl, h2, k2, hok, herr⟩
  have k02 := K1.out.trans k2
  have hm2 := HM1.out.away H1.out hpn hpr k2
  by_cases hl : bs.length ≤ 8 * n
  · obtain ⟨rfl, rfl⟩ := hok hl
    obtain ⟨mi, rv, hblk, _⟩ := hm2.2.2.2.2
    have c1 := hblk.cellIs (i := 0) rfl
    have hcmp := cmpGeq_nm p pn n (num bs) m w2 h2 hm2.2.2.2.1
    have H2 := Lib.hid h2
    have K2 := Lib.hid k02
    have HM2 := Lib.hid hm2
    have HL := Lib.hid hl
    clear hok herr hblk k2 k02 hm2 hl HS
    by_cases hlt : num bs < m
    · rw [decide_eq_false (by omega)] at hcmp
      have HC := Lib.hid hcmp
      have HLT := Lib.hid hlt
      have e0 : (((bitN false : Nat) : Int) == 1) = false := rfl
      have e0' : ((bitN false : Nat) : Int) = 0 := rfl
      rw [e0'] at HC
      clear hcmp hlt h2 e0 e0'
      go_wp2_with fail
      refine HC.out.mono ?_
      rintro e w3 ⟨rfl, k3⟩
      have hfin : SetBy p n m bs w (.returned (.tuple #[.pointer (some ⟨p, 0, none⟩), .nilIface])) w3 := .inl ⟨HLT.out, HL.out, rfl, H2.out.still k3, K2.out.step k3 (fun _ _ e => e.elim)⟩
      have FIN := Lib.hid hfin
      clear hfin k3 HC
      go_wp2_with fail
      go_ret2
      exact FIN.out
    · rw [decide_eq_true (by omega)] at hcmp
      have HC := Lib.hid hcmp
      have HLT := Lib.hid hlt
      have e0' : ((bitN true : Nat) : Int) = 1 := rfl
      rw [e0'] at HC
      clear hcmp hlt h2 e0'
      go_wp2_with fail
      refine HC.out.mono ?_
      rintro e w3 ⟨rfl, k3⟩
      have H3 := Lib.hid (H2.out.still k3)
      have K3 := Lib.hid (K2.out.step k3 (fun _ _ e => e.elim))
      clear k3 HC
      go_wp2_with fail
      refine (errNew_any _ _).mono ?_
      rintro e w4 ⟨rfl, k4⟩
      have hfin : SetBy p n m bs w (.returned (.tuple #[.pointer none, .iface 99 (.pointer (some ⟨w3.heap.size, 0, none⟩))])) w4 := .inr ⟨.inl (by have := HLT.out; omega), _, rfl, ⟨_, H3.out.still k4⟩, K3.out.step k4 (fun _ _ e => e.elim)⟩
      have FIN := Lib.hid hfin
      clear hfin k4
      go_wp2_with fail
      go_ret2
      exact FIN.out
  · obtain ⟨a, rfl⟩ := herr (by omega)
    have hfin : SetBy p n m bs w (.returned (.tuple #[.pointer none, .iface 99 (.pointer (some a))])) w2 := .inr ⟨.inr (by omega), _, rfl, ⟨_, h2⟩, k02⟩
    have FIN := Lib.hid hfin
    clear hfin h2 hok herr k2 k02 hm2 hl HS
    go_wp2_with fail
    go_ret2
    exact FIN.out

theorem setBytes_yes (p q pn pr n0 v0 n m : Nat) (A : Option Addr) (cap : Nat) (bs : List UInt8) (w : World) (hx : Nm w p n0 v0) (hm : Md w q pn pr n m) (hpn : pn ≠ p) (hpr : pr ≠ p) (hb : BytesAt w A bs) (ho : OffNm A bs p) (hc : bs.length ≤ cap) (hL : bs.length ≤ 4294967296) (h1 : num bs < m) (h2 : bs.length ≤ 8 * n) :
    Calls Try.prog 50 #[.pointer (some ⟨p, 0, none⟩), .slice A bs.length cap, .pointer (some ⟨q, 0, none⟩)] w fun e w' => e = .returned (.tuple #[.pointer (some ⟨p, 0, none⟩), .nilIface]) ∧ Nm w' p n (num bs) ∧ Kept (At2 p) w w' := by
  refine (setBytes_nm p q pn pr n0 v0 n m A cap bs w hx hm hpn hpr hb ho hc hL).mono ?_
  rintro e w' (⟨_, _, a, b, c⟩ | ⟨h, _⟩)
  · exact ⟨a, b, c⟩
  · omega
theorem setBytes_no (p q pn pr n0 v0 n m : Nat) (A : Option Addr) (cap : Nat) (bs : List UInt8) (w : World) (hx : Nm w p n0 v0) (hm : Md w q pn pr n m) (hpn : pn ≠ p) (hpr : pr ≠ p) (hb : BytesAt w A bs) (ho : OffNm A bs p) (hc : bs.length ≤ cap) (hL : bs.length ≤ 4294967296) (h1 : m ≤ num bs ∨ 8 * n < bs.length) :
    Calls Try.prog 50 #[.pointer (some ⟨p, 0, none⟩), .slice A bs.length cap, .pointer (some ⟨q, 0, none⟩)] w fun e w' => ∃ a z, e = .returned (.tuple #[.pointer none, .iface 99 (.pointer (some a))]) ∧ Nm w' p n z ∧ Kept (At2 p) w w' := by
  refine (setBytes_nm p q pn pr n0 v0 n m A cap bs w hx hm hpn hpr hb ho hc hL).mono ?_
  rintro e w' (⟨h, h', _⟩ | ⟨_, a, b, ⟨z, c⟩, d⟩)
  · omega
  · exact ⟨a, z, b, c, d⟩

end Go.Proofs.Ytmheoenieaemmaa
