/-
  bigmod.Nat.SetOverflowingBytes.
-/
import Derived.Test.YtdmpiecdpdknaaaGreatDoorGg
import Derived.BigQuiet
import Derived.Deep.QuietTactic
namespace Go.Proofs.YtdmpiecdpdknaaaGreatDoor
open Go.RowKit

/-- The highest word holds the number's bits. -/
theorem top_le (xs ms : List Nat) (n : Nat) (hx : xs.length = n + 1) (hm : ms.length = n + 1) (_wx : Wd xs) (wm : Wd ms) (h : val xs < val ms) : xs[n]'(by omega) ≤ ms[n]'(by omega) := by
  apply Classical.byContradiction
  intro hc
  have e1 := val_take_succ xs n (by omega)
  have e2 := val_take_succ ms n (by omega)
  rw [List.take_of_length_le (by omega)] at e1 e2
  have l2 := val_lt (ms.take n) (wm.take n)
  rw [List.length_take, Nat.min_eq_left (by omega)] at l2
  have := Nat.mul_le_mul_left (Pw n) (show ms[n]'(by omega) + 1 ≤ xs[n]'(by omega) by omega)
  rw [Nat.mul_add, Nat.mul_one] at this
  omega
theorem bitLen_mono {a b : Nat} (h : a ≤ b) : bitLen a ≤ bitLen b :=
  (bitLen_le a (bitLen b)).2 (Nat.lt_of_le_of_lt h ((bitLen_le b (bitLen b)).1 (Nat.le_refl _)))
theorem top_gt (xs ms : List Nat) (n : Nat) (hx : xs.length = n + 1) (hm : ms.length = n + 1) (wx : Wd xs) (wm : Wd ms) (h0 : ms[n]'(by omega) ≠ 0) (h : 2 ^ bitLen (val ms) ≤ val xs) : bitLen (ms[n]'(by omega)) < bitLen (xs[n]'(by omega)) := by
  apply Classical.byContradiction
  intro hc
  have hb := bitLen_top ms n (by omega) wm (fun j h1 h2 => by omega) h0
  have e1 := val_take_succ xs n (by omega)
  rw [List.take_of_length_le (by omega)] at e1
  have l1 := val_lt (xs.take n) (wx.take n)
  rw [List.length_take, Nat.min_eq_left (by omega)] at l1
  have l2 := (bitLen_le (xs[n]'(by omega)) (bitLen (ms[n]'(by omega)))).1 (by omega)
  have l3 := Nat.mul_le_mul_left (Pw n) (show xs[n]'(by omega) + 1 ≤ 2 ^ bitLen (ms[n]'(by omega)) from l2)
  rw [Nat.mul_add, Nat.mul_one] at l3
  have e2 : 2 ^ bitLen (val ms) = Pw n * 2 ^ bitLen (ms[n]'(by omega)) := by
    rw [hb, Nat.pow_add, show Pw n = 2 ^ (n * 64) by unfold Pw; rw [Nat.mul_comm n, Nat.pow_mul]]
  omega

/-- What SetOverflowingBytes leaves. -/
def SetOv (p n m : Nat) (bs : List UInt8) (w : World) (e : Ending) (w' : World) : Prop :=
  (num bs < m ∧ e = .returned (.tuple #[.pointer (some ⟨p, 0, none⟩), .nilIface]) ∧ Nm w' p n (num bs) ∧ Kept (At2 p) w w') ∨
  (m ≤ num bs ∧ ∃ a, e = .returned (.tuple #[.pointer none, .iface 115 (.pointer (some a))]) ∧ Kept (At2 p) w w')

set_option maxHeartbeats 1600000 in
theorem setOver_nm (p q pn pr n0 v0 n m : Nat) (A : Option Addr) (cap : Nat) (bs : List UInt8) (w : World) (hx : Nm w p n0 v0) (hm : Md w q pn pr n m) (hpn : pn ≠ p) (hpr : pr ≠ p) (hb : BytesAt w A bs) (ho : OffNm A bs p) (hc : bs.length ≤ cap) (hL : bs.length ≤ 4294967296)
    (hcase : num bs < m ∧ bs.length ≤ 8 * n ∨ 2 ^ bitLen m ≤ num bs) :
    Calls Tryz.prog 90 #[.pointer (some ⟨p, 0, none⟩), .slice A bs.length cap, .pointer (some ⟨q, 0, none⟩)] w (SetOv p n m bs w) := by
  have hr := resetFor_nm p q pn pr n0 v0 n m w hx hm
  have hm2 : m < 2 ^ bitLen m := (bitLen_le m _).1 (Nat.le_refl _)
  have HR := Lib.hid hr
  have HX := Lib.hid hx
  have HM := Lib.hid hm
  have HB := Lib.hid hb
  have HO := Lib.hid ho
  have HCASE := Lib.hid hcase
  have HM2 := Lib.hid hm2
  clear hr hx hm hb ho hcase hm2
  go_enter Tryz.func90, Tryz.ntmps90
  go_wp2_with fail
  refine HR.out.mono ?_
  rintro e w1 ⟨rfl, h1, k1⟩
  have hs := setBytesRaw_nm p n A cap bs w1 h1 (HB.out.at2 k1 HO.out) hc hL
  have hm1 := HM.out.away HX.out hpn hpr k1
  have HS := Lib.hid hs
  have H1 := Lib.hid h1
  have K1 := Lib.hid k1
  have HM1 := Lib.hid hm1
  clear hs h1 k1 hm1 HR
  go_wp2_with fail
  refine HS.out.mono ?_
  rintro e w2 ⟨v, z, rfl, h2, k2, hok, herr⟩
  have k02 := K1.out.trans k2
  have hmd := HM1.out.away H1.out hpn hpr k2
  by_cases hl : bs.length ≤ 8 * n
  · obtain ⟨rfl, rfl⟩ := hok hl
    obtain ⟨xs, rx, x1, x2, x3, x4, x5⟩ := h2.open_
    obtain ⟨ms, mr, mi, rv, z1, z2, z3, z4, z5, _⟩ := hmd.modAt
    have hn1 := hmd.2.1
    have hlow := hmd.2.2.1
    obtain ⟨k, hk⟩ : ∃ k, n = k + 1 := ⟨n - 1, by omega⟩
    have cx := x1.cell
    have cq := z1.ptr
    have cm := z1.2.cell
    rw [x3] at cx
    rw [show n + rx.length = 32 by omega] at cx
    rw [z2, z3] at cm
    obtain ⟨tx, htx⟩ : ∃ tx, xs[k]'(by omega) = tx := ⟨_, rfl⟩
    obtain ⟨tm, htm⟩ : ∃ tm, ms[k]'(by omega) = tm := ⟨_, rfl⟩
    have clx := x1.limb k (by omega)
    have clm := z1.2.limb k (by omega)
    rw [htx] at clx
    rw [htm] at clm
    have wtx : tx < 18446744073709551616 := by rw [← htx]; exact x1.2.2.1.get k (by omega)
    have wtm : tm < 18446744073709551616 := by rw [← htm]; exact z1.2.2.2.1.get k (by omega)
    have htm0 : tm ≠ 0 := by
      intro e0
      have e2 := val_take_succ ms k (by omega)
      rw [List.take_of_length_le (by omega), htm, e0, Nat.mul_zero, Nat.add_zero, z4] at e2
      have l2 := val_lt (ms.take k) (z1.2.2.2.1.take k)
      rw [List.length_take, Nat.min_eq_left (by omega)] at l2
      rw [show n - 1 = k by omega] at hlow
      omega
    have hcmp : (num bs < m → bitLen tx ≤ bitLen tm) ∧ (2 ^ bitLen m ≤ num bs → bitLen tm < bitLen tx) := by
      refine ⟨fun h => ?_, fun h => ?_⟩
      · rw [← htx, ← htm]; exact bitLen_mono (top_le xs ms k (x3.trans hk) (z2.trans hk) x1.2.2.1 z1.2.2.2.1 (by rw [x5, z4]; exact h))
      · rw [← htx, ← htm]; exact top_gt xs ms k (x3.trans hk) (z2.trans hk) x1.2.2.1 z1.2.2.2.1 (by rw [htm]; exact htm0) (by rw [x5, z4]; exact h)
    have kk1 : (n : Int) - 1 = (k : Int) := by omega
    have hkk : (k : Int) < (n : Int) := by omega
    have hw1 : IntKind.i64.wrap (k : Int) = (k : Int) := IntWalk.i64_in _ (by have := hmd.n32; omega)
    have hw2 : IntKind.i64.wrap ((n : Int) - 1) = (k : Int) := by rw [kk1, hw1]
    have BX : Hid (∀ nq, Calls Tryz.prog 105 #[.int .u64 (tx : Int)] (w2.drewN nq) fun e w'' => e = .returned (.int .i64 (bitLen tx : Int)) ∧ ∃ m, w'' = w2.drewN m) := Lib.hid (fun nq => Calls.quiet_of_same ((bitLen_any tx _ wtx).mono fun e w' h => ⟨h.1, h.2.symm⟩))
    have BM : Hid (∀ nq, Calls Tryz.prog 105 #[.int .u64 (tm : Int)] (w2.drewN nq) fun e w'' => e = .returned (.int .i64 (bitLen tm : Int)) ∧ ∃ m, w'' = w2.drewN m) := Lib.hid (fun nq => Calls.quiet_of_same ((bitLen_any tm _ wtm).mono fun e w' h => ⟨h.1, h.2.symm⟩))
    have H2 := Lib.hid h2
    have X1 := Lib.hid x1
    have Z1 := Lib.hid z1
    have HMD := Lib.hid hmd
    have K02 := Lib.hid k02
    have X3 := Lib.hid x3
    have RX : Hid (n + rx.length = 32) := Lib.hid (by omega)
    have X5 := Lib.hid x5
    have Z2 := Lib.hid z2
    have Z4 := Lib.hid z4
    obtain ⟨bx, hbx⟩ : ∃ bx, bitLen tx = bx := ⟨_, rfl⟩
    obtain ⟨bm, hbm⟩ : ∃ bm, bitLen tm = bm := ⟨_, rfl⟩
    rw [hbx] at BX hcmp
    rw [hbm] at BM hcmp
    have z3' : ms.length + mr.length ≤ 1000000 := by omega
    have Z3 := Lib.hid z3'
    clear h2 x1 z1 hmd k02 x3 x4 x5 z2 z3 z3' z4 z5 hok herr k2 hbx hbm htx htm htm0 HS hlow hk
    rcases HCASE.out with ⟨hlt, _⟩ | hge
    · have hle := hcmp.1 hlt
      have hgi : ¬ (bm : Int) < (bx : Int) := by omega
      have HMS : Hid (∀ nq, _) := Lib.hid (fun nq => maybeSub_mod p (p - 1) q pn (pn - 1) 0 xs rx ms mr (m % 2 == 1) mi rv (w2.drewN nq) (by decide) (X1.out.drewN nq) (Z1.out.still ((Kept.refl NoBlk w2).drewN nq)) (X3.out.trans Z2.out.symm) Z3.out (by rw [X5.out, Z4.out, Nat.mul_zero, Nat.add_zero]; omega))
      clear hcmp hle
      go_wp2_with fail
      go_quiet ((go_at_call 105; first | (with_reducible exact BX.out _) | (with_reducible exact BM.out _)))
      go_wp2_with fail
      refine (HMS.out nq).mono ?_
      rintro e w3 ⟨rfl, zs, y1, y2, y3, y4⟩
      have hfin : SetOv p n m bs w (.returned (.tuple #[.pointer (some ⟨p, 0, none⟩), .nilIface])) w3 := .inl ⟨hlt, rfl, ⟨zs, rx, y2, x2, y1.trans X3.out, RX.out, by
        rw [y4, X5.out, Z4.out, Nat.mul_zero, Nat.add_zero, Nat.mod_eq_of_lt hlt]⟩, (K02.out.drewN nq).trans (At2.one p y3)⟩
      have FIN := Lib.hid hfin
      clear hfin y1 y2 y3 y4 HMS
      go_wp2_with fail
      go_ret2
      exact FIN.out
    · have hle := hcmp.2 hge
      have hgi : (bm : Int) < (bx : Int) := by omega
      clear hcmp hle
      go_wp2_with fail
      go_quiet ((go_at_call 105; first | (with_reducible exact BX.out _) | (with_reducible exact BM.out _)))
      go_wp2_with fail
      refine (errNew_any _ _).mono ?_
      rintro e w3 ⟨rfl, k3⟩
      have hfin : ∀ a, SetOv p n m bs w (.returned (.tuple #[.pointer none, .iface 115 (.pointer (some a))])) w3 := fun a => .inr ⟨by have := HM2.out; omega, _, rfl, (K02.out.drewN nq).step k3 (fun _ _ e => e.elim)⟩
      have FIN := Lib.hid hfin
      clear hfin k3
      go_wp2_with fail
      go_ret2
      exact FIN.out _
  · obtain ⟨a, rfl⟩ := herr (by omega)
    have hge : m ≤ num bs := by
      rcases HCASE.out with h | h
      · exact absurd h.2 hl
      · have := HM2.out; omega
    have hfin : SetOv p n m bs w (.returned (.tuple #[.pointer none, .iface 115 (.pointer (some a))])) w2 := .inr ⟨hge, a, rfl, k02⟩
    have FIN := Lib.hid hfin
    clear hfin h2 hok herr k2 k02 hmd hl HS
    go_wp2_with fail
    go_ret2
    exact FIN.out

end Go.Proofs.YtdmpiecdpdknaaaGreatDoor
