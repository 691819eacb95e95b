/-
  bigmod.Nat.SetBytes, told by values.
  bigmod.Nat.shiftIn.
  bigmod.Nat.Mod.
  bigmod.Nat: montgomeryRepresentation, montgomeryReduction, Mul for odd moduli, ExpShortVarTime.
-/
import Derived.Test.YtdmpiecdpdknaaaGreatDoorGf
namespace Go.Proofs.YtdmpiecdpdknaaaGreatDoor
open Go.RowKit

/-- Bytes that lie outside of a number's blocks. -/
def OffNm (A : Option Addr) (bs : List UInt8) (p : Nat) : Prop := ∀ a, A = some a → bs ≠ [] → a.block ≠ p ∧ a.block ≠ p - 1
theorem BytesAt.at2 {w w' : World} {A : Option Addr} {bs : List UInt8} {p : Nat} (h : BytesAt w A bs) (k : Kept (At2 p) w w') (ho : OffNm A bs p) : BytesAt w' A bs := by
  by_cases h0 : bs = []
  · subst h0; exact .inl rfl
  · exact h.kept k (fun a e hs => by have := ho a e h0; unfold At2 at hs; omega)
theorem Nm.nought {w : World} {p n : Nat} (h : Nm w p n 0) : ∃ rest, NatAt w p (p - 1) (noughts n) rest ∧ 1 ≤ p ∧ n + rest.length = 32 := by
  obtain ⟨xs, rest, a, b, c, d, e⟩ := h
  have : xs = noughts n := val_inj a.2.2.1 (noughts_wd n) (by rw [noughts_length]; exact c) (by rw [e, val_noughts])
  subst this
  exact ⟨rest, a, b, d⟩

/-- What setBytes leaves, told by values. -/
theorem setBytesRaw_nm (p n : Nat) (A : Option Addr) (cap : Nat) (bs : List UInt8) (w : World) (hx : Nm w p n 0) (hb : BytesAt w A bs) (hc : bs.length ≤ cap) (hL : bs.length ≤ 4294967296) :
    Calls Tryz.prog 54 #[.pointer (some ⟨p, 0, none⟩), .slice A bs.length cap] w fun e w' =>
      ∃ v z, e = .returned v ∧ Nm w' p n z ∧ Kept (At2 p) w w' ∧ (bs.length ≤ 8 * n → v = .nilIface ∧ z = num bs) ∧ (8 * n < bs.length → IsErr v) := by
  have hn := hx.bound.2
  obtain ⟨rest, x1, x2, x3⟩ := hx.nought
  refine (setBytes_any p (p - 1) n rest A cap bs w x1 hb (by omega) hc hL).mono ?_
  rintro e w' ⟨v, xs, rfl, a1, a2, a3, a4, a5⟩
  exact ⟨v, val xs, rfl, ⟨xs, rest, a2, x2, a1, x3, rfl⟩, At2.one p a3, a4, a5⟩

/-- What SetBytes leaves. -/
def SetBy (p n m : Nat) (bs : List UInt8) (w : World) (e : Ending) (w' : World) : Prop :=
  (num bs < m ∧ bs.length ≤ 8 * n ∧ e = .returned (.tuple #[.pointer (some ⟨p, 0, none⟩), .nilIface]) ∧ Nm w' p n (num bs) ∧ Kept (At2 p) w w') ∨
  ((m ≤ num bs ∨ 8 * n < bs.length) ∧ ∃ a, e = .returned (.tuple #[.pointer none, .iface 115 (.pointer (some a))]) ∧ (∃ z, Nm w' p n z) ∧ Kept (At2 p) w w')

theorem setBytes_nm (p q pn pr n0 v0 n m : Nat) (A : Option Addr) (cap : Nat) (bs : List UInt8) (w : World) (hx : Nm w p n0 v0) (hm : Md w q pn pr n m) (hpn : pn ≠ p) (hpr : pr ≠ p) (hb : BytesAt w A bs) (ho : OffNm A bs p) (hc : bs.length ≤ cap) (hL : bs.length ≤ 4294967296) :
    Calls Tryz.prog 42 #[.pointer (some ⟨p, 0, none⟩), .slice A bs.length cap, .pointer (some ⟨q, 0, none⟩)] w (SetBy p n m bs w) := by
  have hr := resetFor_nm p q pn pr n0 v0 n m w hx hm
  have HR := Lib.hid hr
  have HX := Lib.hid hx
  have HM := Lib.hid hm
  have HB := Lib.hid hb
  have HO := Lib.hid ho
  clear hr hx hm hb ho
  go_enter Tryz.func42, Tryz.ntmps42
  go_wp2_with fail
  refine HR.out.mono ?_
  rintro e w1 ⟨rfl, h1, k1⟩
  have hs := setBytesRaw_nm p n A cap bs w1 h1 (HB.out.at2 k1 HO.out) hc hL
  have hm1 := HM.out.away HX.out hpn hpr k1
  have HS := Lib.hid hs
  have H1 := Lib.hid h1
  have K1 := Lib.hid k1
  have HM1 := Lib.hid hm1
  clear hs h1 k1 hm1 HR
  go_wp2_with fail
  refine HS.out.mono ?_
  rintro e w2 ⟨v, z, rfl, h2, k2, hok, herr⟩
  have k02 := K1.out.trans k2
  have hm2 := HM1.out.away H1.out hpn hpr k2
  by_cases hl : bs.length ≤ 8 * n
  · obtain ⟨rfl, rfl⟩ := hok hl
    obtain ⟨mi, rv, hblk, _⟩ := hm2.2.2.2.2
    have c1 := hblk.cellIs (i := 0) rfl
    have hcmp := cmpGeq_nm p pn n (num bs) m w2 h2 hm2.2.2.2.1
    have H2 := Lib.hid h2
    have K2 := Lib.hid k02
    have HM2 := Lib.hid hm2
    have HL := Lib.hid hl
    clear hok herr hblk k2 k02 hm2 hl HS
    by_cases hlt : num bs < m
    · rw [decide_eq_false (by omega)] at hcmp
      have HC := Lib.hid hcmp
      have HLT := Lib.hid hlt
      have e0 : (((bitN false : Nat) : Int) == 1) = false := rfl
      have e0' : ((bitN false : Nat) : Int) = 0 := rfl
      rw [e0'] at HC
      clear hcmp hlt h2 e0 e0'
      go_wp2_with fail
      refine HC.out.mono ?_
      rintro e w3 ⟨rfl, k3⟩
      have hfin : SetBy p n m bs w (.returned (.tuple #[.pointer (some ⟨p, 0, none⟩), .nilIface])) w3 := .inl ⟨HLT.out, HL.out, rfl, H2.out.still k3, K2.out.step k3 (fun _ _ e => e.elim)⟩
      have FIN := Lib.hid hfin
      clear hfin k3 HC
      go_wp2_with fail
      go_ret2
      exact FIN.out
    · rw [decide_eq_true (by omega)] at hcmp
      have HC := Lib.hid hcmp
      have HLT := Lib.hid hlt
      have e0' : ((bitN true : Nat) : Int) = 1 := rfl
      rw [e0'] at HC
      clear hcmp hlt h2 e0'
      go_wp2_with fail
      refine HC.out.mono ?_
      rintro e w3 ⟨rfl, k3⟩
      have H3 := Lib.hid (H2.out.still k3)
      have K3 := Lib.hid (K2.out.step k3 (fun _ _ e => e.elim))
      clear k3 HC
      go_wp2_with fail
      refine (errNew_any _ _).mono ?_
      rintro e w4 ⟨rfl, k4⟩
      have hfin : SetBy p n m bs w (.returned (.tuple #[.pointer none, .iface 115 (.pointer (some ⟨w3.heap.size, 0, none⟩))])) w4 := .inr ⟨.inl (by have := HLT.out; omega), _, rfl, ⟨_, H3.out.still k4⟩, K3.out.step k4 (fun _ _ e => e.elim)⟩
      have FIN := Lib.hid hfin
      clear hfin k4
      go_wp2_with fail
      go_ret2
      exact FIN.out
  · obtain ⟨a, rfl⟩ := herr (by omega)
    have hfin : SetBy p n m bs w (.returned (.tuple #[.pointer none, .iface 115 (.pointer (some a))])) w2 := .inr ⟨.inr (by omega), _, rfl, ⟨_, h2⟩, k02⟩
    have FIN := Lib.hid hfin
    clear hfin h2 hok herr k2 k02 hm2 hl HS
    go_wp2_with fail
    go_ret2
    exact FIN.out

theorem setBytes_yes (p q pn pr n0 v0 n m : Nat) (A : Option Addr) (cap : Nat) (bs : List UInt8) (w : World) (hx : Nm w p n0 v0) (hm : Md w q pn pr n m) (hpn : pn ≠ p) (hpr : pr ≠ p) (hb : BytesAt w A bs) (ho : OffNm A bs p) (hc : bs.length ≤ cap) (hL : bs.length ≤ 4294967296) (h1 : num bs < m) (h2 : bs.length ≤ 8 * n) :
    Calls Tryz.prog 42 #[.pointer (some ⟨p, 0, none⟩), .slice A bs.length cap, .pointer (some ⟨q, 0, none⟩)] w fun e w' => e = .returned (.tuple #[.pointer (some ⟨p, 0, none⟩), .nilIface]) ∧ Nm w' p n (num bs) ∧ Kept (At2 p) w w' := by
  refine (setBytes_nm p q pn pr n0 v0 n m A cap bs w hx hm hpn hpr hb ho hc hL).mono ?_
  rintro e w' (⟨_, _, a, b, c⟩ | ⟨h, _⟩)
  · exact ⟨a, b, c⟩
  · omega
theorem setBytes_no (p q pn pr n0 v0 n m : Nat) (A : Option Addr) (cap : Nat) (bs : List UInt8) (w : World) (hx : Nm w p n0 v0) (hm : Md w q pn pr n m) (hpn : pn ≠ p) (hpr : pr ≠ p) (hb : BytesAt w A bs) (ho : OffNm A bs p) (hc : bs.length ≤ cap) (hL : bs.length ≤ 4294967296) (h1 : m ≤ num bs ∨ 8 * n < bs.length) :
    Calls Tryz.prog 42 #[.pointer (some ⟨p, 0, none⟩), .slice A bs.length cap, .pointer (some ⟨q, 0, none⟩)] w fun e w' => ∃ a z, e = .returned (.tuple #[.pointer none, .iface 115 (.pointer (some a))]) ∧ Nm w' p n z ∧ Kept (At2 p) w w' := by
  refine (setBytes_nm p q pn pr n0 v0 n m A cap bs w hx hm hpn hpr hb ho hc hL).mono ?_
  rintro e w' (⟨h, h', _⟩ | ⟨_, a, b, ⟨z, c⟩, d⟩)
  · omega
  · exact ⟨a, z, b, c, d⟩

end Go.Proofs.YtdmpiecdpdknaaaGreatDoor
namespace Go.Proofs.YtdmpiecdpdknaaaGreatDoor
open Go.RowKit

/-- One doubling, reduced: the one or the other of two numbers. -/
theorem shift_step (m R cur bit x' d' c bo : Nat) (hc : c ≤ 1) (hbo : bo ≤ 1) (hbit : bit ≤ 1) (hcur : cur < m) (hm : m < R) (hd : d' < R) (h1 : x' + R * c = 2 * cur + bit) (h2 : d' + m = x' + R * bo) :
    (if (1 - bo = 1 ∨ c = 1) then d' else x') = (2 * cur + bit) % m := by
  have hc' : c = 0 ∨ c = 1 := by omega
  have hb' : bo = 0 ∨ bo = 1 := by omega
  rcases hc' with rfl | rfl <;> rcases hb' with rfl | rfl
  · rw [if_pos (by omega), show 2 * cur + bit = d' + m by omega, Nat.add_mod_right, Nat.mod_eq_of_lt (by omega)]
  · rw [if_neg (by omega), show 2 * cur + bit = x' by omega, Nat.mod_eq_of_lt (by omega)]
  · omega
  · rw [if_pos (by omega), show 2 * cur + bit = d' + m by omega, Nat.add_mod_right, Nat.mod_eq_of_lt (by omega)]

theorem shift_val (X y m i : Nat) (hi : i < 64) : (2 * ((X * 2 ^ (64 - (i + 1)) + y / 2 ^ (i + 1)) % m) + y / 2 ^ i % 2) % m = (X * 2 ^ (64 - i) + y / 2 ^ i) % m := by
  have e : y / 2 ^ i = 2 * (y / 2 ^ (i + 1)) + y / 2 ^ i % 2 := shr_step y i
  have e2 : 2 ^ (64 - i) = 2 * 2 ^ (64 - (i + 1)) := by rw [← Nat.pow_succ']; congr 1; omega
  generalize y / 2 ^ i % 2 = b at *
  rw [Nat.add_mod, Nat.mul_mod, Nat.mod_mod, ← Nat.mul_mod, ← Nat.add_mod, Nat.mul_add, e2, e]
  congr 1
  rw [Nat.mul_left_comm]
  omega

theorem or_bits (c bo : Nat) (hc : c ≤ 1) (hb : bo ≤ 1) : bits .or .u64 ((1 - bo : Nat) : Int) (c : Int) = ((if (1 - bo = 1 ∨ c = 1) then 1 else 0 : Nat) : Int) := by
  have hc' : c = 0 ∨ c = 1 := by omega
  have hb' : bo = 0 ∨ bo = 1 := by omega
  rcases hc' with rfl | rfl <;> rcases hb' with rfl | rfl <;> decide

/-- The blocks of two rows. -/
def Two (a b : Nat) : Nat → Prop := fun k => k = a ∨ k = b

set_option maxHeartbeats 2000000 in
set_option maxRecDepth 4000 in
theorem shiftIn_any (p b q pn bn n y : Nat) (xs rest ms mr : List Nat) (od : Bool) (mi : Nat) (rv : Value) (w : World) (hx : NatAt w p b xs rest) (hm : ModAt w q pn bn ms mr od mi rv) (hbn : bn ≠ b)
    (hl : xs.length = n) (hn : ms.length = n) (hnr : n + rest.length ≤ 1000000) (hnm : n + mr.length ≤ 1000000) (hy : y < 18446744073709551616) (hxm : val xs < val ms) :
    Calls Tryz.prog 86 #[.pointer (some ⟨p, 0, none⟩), .int .u64 y, .pointer (some ⟨q, 0, none⟩)] w fun e w' =>
      e = .returned (.pointer (some ⟨p, 0, none⟩)) ∧ ∃ zs : List Nat, zs.length = n ∧ NatAt w' p b zs rest ∧ Kept (OneBlk b) w w' ∧ val zs = (val xs * 18446744073709551616 + y) % val ms := by
  have hpl := hx.lt
  have hml := hm.2.lt
  have HX := Lib.hid hx
  have HM := Lib.hid hm
  have HN := Lib.hid hn
  have HL := Lib.hid hl
  have HY := Lib.hid hy
  have HXM := Lib.hid hxm
  clear hx hm hn hl hy hxm
  go_enter Tryz.func86, Tryz.ntmps86
  go_wp2_with fail
  refine (newNat_any w).mono ?_
  rintro e w1 ⟨rfl, h1, k1⟩
  have hr := resetFor_any (w.heap.size + 1) w.heap.size q pn bn [] (noughts 32) ms mr od mi rv w1 h1 (HM.out.still k1) (by have := HN.out; omega)
  have HR := Lib.hid hr
  have K1 := Lib.hid k1
  have hs1 := k1.size
  clear h1 k1 hr
  go_wp2_with fail
  refine HR.out.mono ?_
  rintro e w2 ⟨rfl, bd, restd, h2, h3, h4, h5⟩
  rw [HN.out] at h2 h3 h4
  rw [noughts_length] at h3 h4
  have hk : Kept NoBlk w w2 := K1.out.step h5 (fun i hi e => by unfold Both at e; omega)
  have hbd : w.heap.size ≤ bd := by omega
  have hrd : n + restd.length ≤ 1000000 := by simp [noughts] at h4; omega
  have hx2 := HX.out.still hk
  have hm2 := HM.out.still hk
  have c1 := hx2.cell
  rw [HL.out] at c1
  have c2 := h2.cell
  rw [noughts_length] at c2
  have c3 := hm2.2.cell
  rw [HN.out] at c3
  have c4 := hm2.ptr
  have j1 : (n : Int) ≤ (n : Int) + (rest.length : Int) := by omega
  have j2 : (n : Int) ≤ (n : Int) + (restd.length : Int) := by omega
  have j3 : (n : Int) ≤ (n : Int) + (mr.length : Int) := by omega
  have H2 := Lib.hid h2
  have HK := Lib.hid hk
  have HX2 := Lib.hid hx2
  clear h2 h3 h4 h5 hk hx2 hm2 HR K1
  go_wp2_with fail
  clear c1 c2 c3 c4
  go_loopw [12, 13] (fun sv iv wr => ∃ (i s : Nat) (xs' ds : List Nat), i ≤ 64 ∧ s ≤ 1 ∧ sv = .int .u64 (s : Int) ∧ iv = .int .i64 ((i : Int) - 1) ∧ xs'.length = n ∧ ds.length = n ∧ NatAt wr p b xs' rest ∧ NatAt wr (w.heap.size + 1) bd ds restd ∧
    Kept (OneBlk b) w wr ∧ val (sel s ds xs') = (val xs * 2 ^ (64 - i) + y / 2 ^ i) % val ms) (fun _ iv _ => (intOf iv + 1).toNat)
  case atStart => exact ⟨64, 0, xs, noughts n, by omega, by omega, rfl, rfl, HL.out, noughts_length n, HX2.out, H2.out, HK.out.mono (fun _ _ e => e.elim), by rw [sel_zero, Nat.sub_self, Nat.pow_zero, Nat.mul_one, Nat.div_eq_of_lt HY.out, Nat.add_zero, Nat.mod_eq_of_lt HXM.out]⟩
  case round =>
    obtain ⟨i, s, xs', ds, hi, hs, rfl, rfl, hxl, hdl, hxs, hds, hK, hv⟩ := hrel
    clear H2 HX2
    rcases Nat.eq_zero_or_pos i with h0 | h0
    · subst h0
      rw [Nat.sub_zero, Nat.pow_zero, Nat.div_one, show (2 : Nat) ^ 64 = 18446744073709551616 from rfl] at hv
      have has := assign_any p b (w.heap.size + 1) bd s xs' rest ds restd wr hs hxs hds (by omega) (.inl (by omega)) (by omega)
      have HAS := Lib.hid has
      have HV := Lib.hid hv
      have HK2 := Lib.hid hK
      have HXL := Lib.hid hxl
      have HDL := Lib.hid hdl
      have hneg : ¬ (0 : Int) ≤ ((0 : Nat) : Int) - 1 := by omega
      clear has hv hK hxl hdl hxs hds
      go_wp2_with fail
      refine HAS.out.mono ?_
      rintro e w3 ⟨rfl, h6, k6⟩
      have hfin : ∃ zs : List Nat, zs.length = n ∧ NatAt w3 p b zs rest ∧ Kept (OneBlk b) w w3 ∧ val zs = (val xs * 18446744073709551616 + y) % val ms :=
        ⟨_, by unfold sel; split; exact HDL.out; exact HXL.out, h6, HK2.out.trans k6, HV.out⟩
      have FIN := Lib.hid hfin
      clear h6 k6 hfin HAS
      go_wp2_with fail
      go_ret
      exact ⟨rfl, FIN.out⟩
    · rename World => wo
      obtain ⟨j, rfl⟩ : ∃ j, i = j + 1 := ⟨i - 1, by omega⟩
      have ej : ((j + 1 : Nat) : Int) - 1 = (j : Int) := by omega
      obtain ⟨t, ht⟩ : ∃ t, y / 2 ^ j = t := ⟨_, rfl⟩
      have hty : t < 18446744073709551616 := by rw [← ht]; exact Nat.lt_of_le_of_lt (Nat.div_le_self _ _) HY.out
      have hsh : (y : Int) / 2 ^ j = (t : Int) := by
        rw [← ht, Int.natCast_ediv, Int.natCast_pow]; rfl
      have hand : bits .and .u64 (t : Int) 1 = ((t % 2 : Nat) : Int) := by
        have := bits_and_u64_nat t 1 hty (by omega)
        rw [Nat.and_one_is_mod] at this
        exact this
      have hmk := ctMask_is s hs wo
      have HMK := Lib.hid hmk
      have HT := Lib.hid ht
      have HV := Lib.hid hv
      have HK2 := Lib.hid hK
      have HXS := Lib.hid hxs
      have HDS := Lib.hid hds
      have HXL := Lib.hid hxl
      have HDL := Lib.hid hdl
      clear hmk ht hv hK hxs hds hxl hdl hty
      rw [ej]
      go_wp2_with fail
      refine HMK.out.mono ?_
      rintro e w' ⟨rfl, rfl⟩
      clear HMK hsh hand
      go_wp2_with fail
      obtain ⟨L, hL⟩ : ∃ L, sel s ds xs' = L := ⟨_, rfl⟩
      have hLl : L.length = n := by rw [← hL]; unfold sel; split; exact HDL.out; exact HXL.out
      have hLw : Wd L := by rw [← hL]; unfold sel; split; exact HDS.out.2.2.1; exact HXS.out.2.2.1
      have HLL := Lib.hid hL
      have HLN := Lib.hid hLl
      have HLW := Lib.hid hLw
      have hbbd : b ≠ bd := by omega
      have hbnd : bn ≠ bd := by omega
      clear hL hLl hLw
      go_loopw [14, 15, 17] (fun cv bv kv wr => ∃ (k c bo : Nat) (zs us : List Nat), k ≤ n ∧ cv = .int .u64 (c : Int) ∧ bv = .int .u64 (bo : Int) ∧ kv = .int .i64 (k : Int) ∧ c ≤ 1 ∧ bo ≤ 1 ∧ zs.length = k ∧ us.length = k ∧ Wd zs ∧ Wd us ∧
        val zs + Pw k * c = 2 * val (L.take k) + t % 2 ∧ val us + val (ms.take k) = val zs + Pw k * bo ∧ Mid wr b zs (xs' ++ rest) k ∧ Mid wr bd us (ds ++ restd) k ∧ Kept (Two b bd) wo wr) (fun _ _ kv _ => n - (intOf kv).toNat)
      case atStart => exact ⟨0, t % 2, 0, [], [], Nat.zero_le _, by first | rfl | go_num, rfl, rfl, by omega, by omega, rfl, rfl, Wd.nil, Wd.nil, by simp [val, Pw_zero], by simp [val], HXS.out.mid, HDS.out.mid, Kept.refl _ _⟩
      case round =>
        obtain ⟨k, c, bo, zs, us, hk, rfl, rfl, rfl, hc, hbo, hzl, hul, hzw, huw, hv1, hv2, hm1, hm2, hKi⟩ := hrel
        by_cases hlt : k < n
        · have hkx : k < xs'.length := by have := HXL.out; omega
          have hkd : k < ds.length := by have := HDL.out; omega
          have hkm : k < ms.length := by have := HN.out; omega
          have hkL : k < L.length := by have := HLN.out; omega
          have cx := hm1.cell hzl (by simp; omega)
          rw [List.getElem_append_left hkx] at cx
          have cd := hm2.cell hul (by simp; omega)
          rw [List.getElem_append_left hkd] at cd
          have hmw : ∀ i h, ms[i]'h < 18446744073709551616 := fun i h => HM.out.2.2.2.1.get i h
          have cm : wr.cell? ⟨bn, k, none⟩ = some (.int .u64 (ms[k] : Int)) := by
            have h1 := (HM.out.2.kept HK2.out (HM.out.2.cross HX.out) hbn).limb k hkm
            exact (hKi.cell (p := ⟨bn, k, none⟩) (Nat.lt_of_lt_of_le hml.2 HK2.out.size) (fun e => by rcases e with e | e; exact hbn e; exact hbnd e)).trans h1
          have wxk := HXS.out.2.2.1.get k hkx
          have wdk := HDS.out.2.2.1.get k hkd
          obtain ⟨m1, m2, m3⟩ := mask_step s xs'[k] ds[k] hs wxk wdk
          have hLk : (if s = 1 then ds[k] else xs'[k]) = L[k] := by
            have h := HLL.out
            subst h
            unfold sel
            split <;> rfl
          rw [hLk] at m3
          obtain ⟨mm, hmm⟩ : ∃ mm, ms[k] = mm := ⟨_, rfl⟩
          obtain ⟨x, hx⟩ : ∃ x, xs'[k] = x := ⟨_, rfl⟩
          obtain ⟨dd, hdd⟩ : ∃ dd, ds[k] = dd := ⟨_, rfl⟩
          obtain ⟨l, hl⟩ : ∃ l, L[k] = l := ⟨_, rfl⟩
          rw [hx, hdd] at m1 m2
          rw [hx, hdd, hl] at m3
          rw [hx] at cx
          rw [hdd] at cd
          rw [hmm] at cm
          obtain ⟨r, hr⟩ : ∃ r : Nat, x ^^^ dd = r := ⟨_, rfl⟩
          rw [hr] at m1 m2 m3
          obtain ⟨q', hq⟩ : ∃ q' : Nat, (if s = 1 then r else 0) = q' := ⟨_, rfl⟩
          rw [hq] at m2 m3
          have wl : l < 18446744073709551616 := by rw [← hl]; exact HLW.out.get k hkL
          have wm : mm < 18446744073709551616 := by rw [← hmm]; exact hmw k hkm
          obtain ⟨z, c', hz, hzlt⟩ : ∃ z c', l + l + c = z + 18446744073709551616 * c' ∧ z < 18446744073709551616 := ⟨(l + l + c) % 18446744073709551616, (l + l + c) / 18446744073709551616, by omega, by omega⟩
          have hc'1 : c' ≤ 1 := by omega
          obtain ⟨u, bo', hu, hult⟩ : ∃ u bo', z + 18446744073709551616 * bo' = u + mm + bo ∧ u < 18446744073709551616 := ⟨(z + 18446744073709551616 + 18446744073709551616 - mm - bo) % 18446744073709551616, if z < mm + bo then 1 else 0, by split <;> omega, by omega⟩
          have hbo'1 : bo' ≤ 1 := by omega
          have HADD := Lib.hid (bitsAdd_is l l c z c' hc hzlt hz)
          have HSUB := Lib.hid (bitsSub_is z mm bo u bo' hbo hult hzlt wm hu)
          have hn1 : val (zs ++ [z]) + Pw (k + 1) * c' = 2 * val (L.take (k + 1)) + t % 2 := by
            rw [val_snoc, val_take_succ L k hkL, hl, hzl, Pw_succ, Nat.mul_add]
            have e1 : Pw k * z + Pw k * (18446744073709551616 * c') = Pw k * l + Pw k * l + Pw k * c := by rw [← Nat.mul_add, ← Nat.mul_add, ← Nat.mul_add, hz]
            rw [Nat.mul_comm 18446744073709551616 (Pw k), Nat.mul_assoc (Pw k)]
            omega
          have hn2 : val (us ++ [u]) + val (ms.take (k + 1)) = val (zs ++ [z]) + Pw (k + 1) * bo' := by
            rw [val_snoc, val_snoc, val_take_succ ms k hkm, hmm, hzl, hul, Pw_succ]
            have e1 : Pw k * z + Pw k * (18446744073709551616 * bo') = Pw k * u + Pw k * mm + Pw k * bo := by rw [← Nat.mul_add, ← Nat.mul_add, ← Nat.mul_add, hu]
            rw [Nat.mul_comm 18446744073709551616 (Pw k), Nat.mul_assoc (Pw k)]
            omega
          have HN1 := Lib.hid hn1
          have HN2 := Lib.hid hn2
          have HZL := Lib.hid hzl
          have HUL := Lib.hid hul
          have HZW := Lib.hid (hzw.snoc hzlt)
          have HUW := Lib.hid (huw.snoc hult)
          have HM1 := Lib.hid hm1
          have HM2 := Lib.hid hm2
          have HKI := Lib.hid hKi
          have fx := hm1.frozen k
          have hkxs : k < (xs' ++ rest).length := by simp; omega
          have hkds : k < (ds ++ restd).length := by simp; omega
          clear hn1 hn2 hzl hul hzw huw hm1 hm2 hKi hv1 hv2 hLk hmm hx hdd hl hr hq hz hu
          go_wp2_with fail
          go_quiet (fail)
          go_wp2_with fail
          refine (HADD.out _).mono ?_
          rintro e w' ⟨rfl, rfl⟩
          obtain ⟨W5, hW5⟩ : ∃ W5, (wr.drewN nq).setCell ⟨b, k, none⟩ (.int .u64 (z : Int)) = W5 := ⟨_, rfl⟩
          have g1 : Mid W5 b (zs ++ [z]) (xs' ++ rest) (k + 1) := (HM1.out.drewN nq).set HZL.out hkxs z hW5.symm
          have k15 : Kept (OneBlk b) (wr.drewN nq) W5 := by rw [← hW5]; exact (Kept.refl _ _).setOne _ _
          have g2 : Mid W5 bd us (ds ++ restd) k := by
            have := HM2.out.drewN nq
            exact Blk.kept this k15 (fun e => hbbd e.symm)
          have cz : W5.cell? ⟨b, k, none⟩ = some (.int .u64 (z : Int)) := by
            refine Blk.cellIs g1 ?_
            rw [List.getElem?_toArray, List.getElem?_map, List.getElem?_append_left (by simp [HZL.out]), List.getElem?_append_right (by rw [HZL.out]; omega), HZL.out, Nat.sub_self]
            rfl
          have cd5 : W5.cell? ⟨bd, k, none⟩ = some (.int .u64 (dd : Int)) := (k15.cell (p := ⟨bd, k, none⟩) (World.block_lt_of_cell? wr ⟨bd, k, none⟩ cd) (fun e => hbbd e.symm)).trans cd
          have cm5 : W5.cell? ⟨bn, k, none⟩ = some (.int .u64 (mm : Int)) := (k15.cell (p := ⟨bn, k, none⟩) (World.block_lt_of_cell? wr ⟨bn, k, none⟩ cm) hbn).trans cm
          have fd5 := Blk.frozen g2 k
          have HK5 : Hid (Kept (Two b bd) wo W5) := Lib.hid ((HKI.out.drewN nq).trans (k15.mono (fun _ _ e => .inl e)))
          have G1 := Lib.hid g1
          have G2 := Lib.hid g2
          clear g1 g2 k15 HKI HM1 HM2 m1 m2 m3 cd cm
          go_wp2_with fail
          clear cx fx
          go_region_with (go_at_call 84; refine (HSUB.out _).mono ?_; rintro e w' ⟨rfl, rfl⟩)
          all_goals go_wp2_with fail
          all_goals
            go_roundw
            case rel => exact ⟨k + 1, c', bo', zs ++ [z], us ++ [u], by omega, rfl, rfl, by go_num, hc'1, hbo'1, by rw [List.length_append, HZL.out]; rfl, by rw [List.length_append, HUL.out]; rfl, HZW.out, HUW.out, HN1.out, HN2.out, Mid.drew (Blk.far G1.out (p := ⟨bd, k, none⟩) hbbd _), Mid.drew (Mid.set G2.out HUL.out hkds u rfl), (HK5.out.setCell ⟨bd, k, none⟩ _ (fun _ => .inr rfl)).drew⟩
            case measure => first | (simp [intOf]; done) | (simp [intOf]; omega)
        · obtain rfl : k = n := by omega
          rw [List.take_of_length_le (by have := HLN.out; omega)] at hv1
          rw [List.take_of_length_le (by have := HN.out; omega)] at hv2
          have hcur : val L = (val xs * 2 ^ (64 - (j + 1)) + y / 2 ^ (j + 1)) % val ms := by rw [← HLL.out]; exact HV.out
          have hmpos : 0 < val ms := by have := HXM.out; omega
          have hstep := shift_step (val ms) (Pw k) (val L) (t % 2) (val zs) (val us) c bo hc hbo (by omega) (by rw [hcur]; exact Nat.mod_lt _ hmpos) (by have := val_lt ms HM.out.2.2.2.1; rw [HN.out] at this; exact this) (by have := val_lt us huw; rw [hul] at this; exact this) hv1 hv2
          rw [hcur, ← HT.out, shift_val _ _ _ j (by omega)] at hstep
          have hor := or_bits c bo hc hbo
          have hnot := not_is bo hbo wr
          have hx3 : NatAt wr p b zs rest := by
            refine ⟨?_, ?_, hzw, HXS.out.2.2.2⟩
            · have := HXS.out.1.kept hKi (fun e => by rcases e with e | e; exact HXS.out.pb e; exact HXS.out.cross HDS.out e)
              rw [hzl]; rw [HXL.out] at this; exact this
            · have := hm1
              unfold Mid at this
              rw [← HXL.out, List.drop_left] at this
              exact this
          have hd3 : NatAt wr (w.heap.size + 1) bd us restd := by
            refine ⟨?_, ?_, huw, HDS.out.2.2.2⟩
            · have := HDS.out.1.kept hKi (fun e => by rcases e with e | e; exact HDS.out.cross HXS.out e; exact HDS.out.pb e)
              rw [hul]; rw [HDL.out] at this; exact this
            · have := hm2
              unfold Mid at this
              rw [← HDL.out, List.drop_left] at this
              exact this
          obtain ⟨s', hs'⟩ : ∃ s' : Nat, (if (1 - bo = 1 ∨ c = 1) then 1 else 0) = s' := ⟨_, rfl⟩
          rw [hs'] at hor
          have hs'1 : s' ≤ 1 := by rw [← hs']; split <;> omega
          have hsel : val (sel s' us zs) = (val xs * 2 ^ (64 - j) + y / 2 ^ j) % val ms := by
            rw [← hstep, ← hs']
            unfold sel
            split <;> rfl
          have hkk : Kept (OneBlk b) w wr := HK2.out.step hKi (fun i hi e => by rcases e with e | e; exact e; (unfold OneBlk; omega))
          have HNOT := Lib.hid hnot
          have HSEL := Lib.hid hsel
          have HX3 := Lib.hid hx3
          have HD3 := Lib.hid hd3
          have HKK := Lib.hid hkk
          have HZL := Lib.hid hzl
          have HUL := Lib.hid hul
          clear hv1 hv2 hcur hstep hnot hx3 hd3 hs' hsel hkk hm1 hm2 hKi hzl hul hzw huw
          go_wp2_with fail
          refine HNOT.out.mono ?_
          rintro e w' ⟨rfl, rfl⟩
          go_wp2_with fail
          go_roundw
          case rel => exact ⟨j, s', zs, us, by omega, hs'1, rfl, rfl, HZL.out, HUL.out, HX3.out, HD3.out, HKK.out, HSEL.out⟩
          case measure => first | (simp [intOf]; done) | (simp [intOf]; omega)

end Go.Proofs.YtdmpiecdpdknaaaGreatDoor
namespace Go.Proofs.YtdmpiecdpdknaaaGreatDoor
open Go.RowKit

theorem shiftIn_nm (p q pn pr n m v y : Nat) (w : World) (hx : Nm w p n v) (hm : Md w q pn pr n m) (hpn : pn ≠ p) (hy : y < 18446744073709551616) (hv : v < m) :
    Calls Tryz.prog 86 #[.pointer (some ⟨p, 0, none⟩), .int .u64 y, .pointer (some ⟨q, 0, none⟩)] w (NmOut p n ((v * 18446744073709551616 + y) % m) w) := by
  have h32 := hm.n32
  obtain ⟨ms, mr, mi, rv, h, a1, a2, a3, _⟩ := hm.modAt
  have hpm := hm.ltq.2.2
  obtain ⟨xs, rest, x1, x2, x3, x4, x5⟩ := hx.open_
  refine (shiftIn_any p (p - 1) q pn (pn - 1) n y xs rest ms mr _ mi rv w x1 h (by omega) x3 a1 (by omega) (by omega) hy (by omega)).mono ?_
  rintro e w' ⟨rfl, zs, z1, z2, z3, z4⟩
  exact ⟨rfl, ⟨zs, rest, z2, x2, z1, by omega, by rw [z4, x5, a3]⟩, At2.one p z3⟩

theorem noughts_snoc (k : Nat) : noughts (k + 1) = noughts k ++ [0] := by unfold noughts; rw [List.replicate_succ']
/-- The number while its topmost words are laid: t of c. -/
def topRow (xs : List Nat) (n c t : Nat) : List Nat := noughts (c - t) ++ (xs.drop (xs.length - t) ++ noughts (n - c))
theorem topRow_zero (xs : List Nat) (n c : Nat) (h : c ≤ n) : topRow xs n c 0 = noughts n := by
  unfold topRow noughts
  rw [Nat.sub_zero, Nat.sub_zero, List.drop_length, List.nil_append, List.replicate_append_replicate, Nat.add_sub_cancel' h]
theorem topRow_set (xs : List Nat) (n c t : Nat) (ht : t < c) (hc : c ≤ xs.length) : (topRow xs n c t).set (c - t - 1) (xs[xs.length - t - 1]'(by omega)) = topRow xs n c (t + 1) := by
  unfold topRow
  obtain ⟨d, hd⟩ : ∃ d, c - t = d + 1 := ⟨c - t - 1, by omega⟩
  rw [hd, show c - (t + 1) = d by omega, noughts_snoc, Nat.add_sub_cancel, List.append_assoc, List.set_append_right _ _ (by rw [noughts_length]; omega), noughts_length, Nat.sub_self]
  rw [List.cons_append, List.nil_append, List.set_cons_zero, show xs.length - (t + 1) = xs.length - t - 1 by omega]
  rw [List.drop_eq_getElem_cons (show xs.length - t - 1 < xs.length by omega), List.cons_append, show xs.length - t - 1 + 1 = xs.length - t by omega]
theorem topRow_length (xs : List Nat) (n c t : Nat) (ht : t ≤ c) (hc : c ≤ xs.length) (hn : c ≤ n) : (topRow xs n c t).length = n := by
  unfold topRow
  rw [List.length_append, List.length_append, noughts_length, noughts_length, List.length_drop]; omega
theorem topRow_val (xs : List Nat) (n c : Nat) : val (topRow xs n c c) = val (xs.drop (xs.length - c)) := by
  unfold topRow
  rw [Nat.sub_self, show noughts 0 = [] from rfl, List.nil_append, val_append, val_noughts, Nat.mul_zero, Nat.add_zero]
theorem val_drop_step (xs : List Nat) (i : Nat) (hi : i < xs.length) : val (xs.drop i) = val (xs.drop (i + 1)) * 18446744073709551616 + xs[i] := by
  rw [List.drop_eq_getElem_cons hi, val]; omega

set_option maxHeartbeats 1000000 in
theorem mod_any (p q pn pr n0 v0 n m px bx : Nat) (xs restx : List Nat) (w : World) (hp : Nm w p n0 v0) (hm : Md w q pn pr n m) (hpn : pn ≠ p) (hpr : pr ≠ p) (hx : NatAt w px bx xs restx) (hxp : px ≠ p) (hxb : bx ≠ p - 1) (hxn : xs.length + restx.length ≤ 1000000) :
    Calls Tryz.prog 59 #[.pointer (some ⟨p, 0, none⟩), .pointer (some ⟨px, 0, none⟩), .pointer (some ⟨q, 0, none⟩)] w (NmOut p n (val xs % m) w) := by
  have hr := resetFor_nm p q pn pr n0 v0 n m w hp hm
  have h32 := hm.n32
  have hn1 := hm.2.1
  have hge := hm.2.2.1
  obtain ⟨c, hc⟩ : ∃ c, min (n - 1) xs.length = c := ⟨_, rfl⟩
  have hc1 : c ≤ n - 1 ∧ c ≤ xs.length ∧ (c = n - 1 ∨ c = xs.length) := by omega
  have hsmall : val (xs.drop (xs.length - c)) < m := by
    have h1 := val_lt _ (hx.2.2.1.drop (xs.length - c))
    rw [List.length_drop] at h1
    have h2 := Pw_le (show xs.length - (xs.length - c) ≤ n - 1 by omega)
    omega
  have HP := Lib.hid hp
  have HM := Lib.hid hm
  have HX := Lib.hid hx
  have HR := Lib.hid hr
  have HS := Lib.hid hsmall
  clear hp hm hx hr hge hc hsmall
  go_enter Tryz.func59, Tryz.ntmps59
  go_wp2_with fail
  refine HR.out.mono ?_
  rintro e w1 ⟨rfl, h1, k1⟩
  have off : ∀ wr : World, Kept (At2 p) w wr → NatAt wr px bx xs restx := fun wr k => by
    obtain ⟨ys, rest, hy, hy1, _⟩ := HP.out
    exact HX.out.away hy hxp (by omega) k
  have offm : ∀ wr : World, Kept (At2 p) w wr → Md wr q pn pr n m := fun wr k => HM.out.away HP.out hpn hpr k
  have hx1 := off w1 k1
  have hm1 := offm w1 k1
  have c1 := hx1.cell
  obtain ⟨ms, mr, mi, rv, hma, ma1, ma2, _⟩ := hm1.modAt
  have c2 := hma.ptr
  have c3 := hma.2.cell
  rw [ma1] at c3
  have OFF := Lib.hid off
  have OFFM := Lib.hid offm
  have H1 := Lib.hid h1
  have K1 := Lib.hid k1
  clear off offm hx1 hm1 hma h1 k1 HR
  by_cases hcs : (xs.length : Int) - 1 < (n : Int) - 2
  all_goals
    go_wp2_with fail
    clear c1 c2 c3
    go_loopw [7, 9] (fun iv jv wr => ∃ t : Nat, t ≤ c ∧ iv = .int .i64 ((xs.length : Int) - 1 - t) ∧ jv = .int .i64 ((c : Int) - 1 - t) ∧ (∃ rest, NatAt wr p (p - 1) (topRow xs n c t) rest ∧ n + rest.length = 32) ∧ 1 ≤ p ∧ Kept (At2 p) w wr) (fun _ jv _ => (intOf jv + 1).toNat)
    case atStart =>
      obtain ⟨rest, a1, a2, a3⟩ := H1.out.nought
      exact ⟨0, Nat.zero_le _, by first | rfl | (congr 1; omega), by first | rfl | (congr 1; omega), ⟨rest, by rw [topRow_zero _ _ _ (by omega)]; exact a1, a3⟩, a2, K1.out⟩
    case round =>
      obtain ⟨t, ht, rfl, rfl, ⟨rest, ha, hrl⟩, hp1, hK⟩ := hrel
      by_cases hlt : t < c
      · have hix : xs.length - t - 1 < xs.length := by omega
        have hxr := OFF.out wr hK
        have c1 := hxr.cell
        have c2 := ha.cell
        rw [topRow_length xs n c t ht hc1.2.1 (by omega)] at c2
        have cx := hxr.limb (xs.length - t - 1) hix
        have cy := ha.limb (c - t - 1) (by rw [topRow_length xs n c t ht hc1.2.1 (by omega)]; omega)
        have fy := ha.2.1.frozen (c - t - 1)
        have e1 : (xs.length : Int) - 1 - (t : Int) = ((xs.length - t - 1 : Nat) : Int) := by omega
        have e2 : (c : Int) - 1 - (t : Int) = ((c - t - 1 : Nat) : Int) := by omega
        have hset := fun (w' : World) (hw : w' = (wr.setCell ⟨p - 1, c - t - 1, none⟩ (.int .u64 ((xs[xs.length - t - 1]'hix : Nat) : Int))).drew) => (show NatAt w' p (p - 1) (topRow xs n c (t + 1)) rest by
          subst hw
          rw [← topRow_set xs n c t hlt hc1.2.1]
          exact (ha.setLimb (c - t - 1) _ (by rw [topRow_length xs n c t ht hc1.2.1 (by omega)]; omega) (HX.out.2.2.1.get _ hix)).drew)
        obtain ⟨x, hx⟩ : ∃ x, xs[xs.length - t - 1]'hix = x := ⟨_, rfl⟩
        rw [hx] at cx hset
        obtain ⟨ii, hii⟩ : ∃ ii, xs.length - t - 1 = ii := ⟨_, rfl⟩
        obtain ⟨jj, hjj⟩ : ∃ jj, c - t - 1 = jj := ⟨_, rfl⟩
        obtain ⟨yv, hyv⟩ : ∃ yv, (topRow xs n c t)[c - t - 1]'(by rw [topRow_length xs n c t ht hc1.2.1 (by omega)]; omega) = yv := ⟨_, rfl⟩
        rw [hyv] at cy
        rw [hii] at cx e1
        rw [hjj] at cy fy e2 hset
        have e3 : (ii : Int) < (xs.length : Int) := by omega
        have e4 : (jj : Int) < (n : Int) := by omega
        have HSET := Lib.hid hset
        have HKK := Lib.hid hK
        have HII := Lib.hid hii
        have HJJ := Lib.hid hjj
        rw [e1, e2]
        clear hset hK ha hxr hx hii hjj hyv e1 e2 hix
        go_wp2_with fail
        go_region
        all_goals go_wp2_with fail
        all_goals
          go_roundw
          case rel => exact ⟨t + 1, by omega, by have := HII.out; first | rfl | (congr 1; omega), by have := HJJ.out; first | rfl | (congr 1; omega), ⟨rest, HSET.out _ rfl, hrl⟩, hp1, (HKK.out.setCell _ _ (fun _ => .inr rfl)).drew⟩
          case measure => have := HJJ.out; first | (simp [intOf]; done) | (simp [intOf]; omega)
      · obtain rfl : t = c := by omega
        have hv := topRow_val xs n t
        have hnm : Nm wr p n (val (xs.drop (xs.length - t)) % m) := ⟨_, rest, ha, hp1, topRow_length xs n t t (Nat.le_refl _) hc1.2.1 (by omega), hrl, by rw [hv, Nat.mod_eq_of_lt HS.out]⟩
        have HN := Lib.hid hnm
        have HKK := Lib.hid hK
        have hneg : ¬ (0 : Int) ≤ (t : Int) - 1 - (t : Int) := by omega
        clear hv hnm hK ha
        go_wp2_with fail
        go_loopw [7] (fun iv wr => ∃ i : Nat, i ≤ xs.length ∧ iv = .int .i64 ((i : Int) - 1) ∧ Nm wr p n (val (xs.drop i) % m) ∧ Kept (At2 p) w wr) (fun iv _ => (intOf iv + 1).toNat)
        case atStart => exact ⟨xs.length - t, by omega, by first | rfl | (congr 1; omega), HN.out, HKK.out⟩
        case round =>
          obtain ⟨i, hi, rfl, hN, hK⟩ := hrel
          rcases Nat.eq_zero_or_pos i with h0 | h0
          · subst h0
            have HN := Lib.hid hN
            have HKK := Lib.hid hK
            have hneg2 : ¬ (0 : Int) ≤ ((0 : Nat) : Int) - 1 := by omega
            clear hN hK
            go_wp2_with fail
            go_ret
            exact ⟨rfl, by have := HN.out; rw [List.drop_zero] at this; exact this, HKK.out⟩
          · obtain ⟨j, rfl⟩ : ∃ j, i = j + 1 := ⟨i - 1, by omega⟩
            have hj : j < xs.length := by omega
            have hxr := OFF.out wr hK
            have c1 := hxr.cell
            have cx := hxr.limb j hj
            have hstep := val_drop_step xs j hj
            obtain ⟨x, hx⟩ : ∃ x, xs[j] = x := ⟨_, rfl⟩
            have hxw : x < 18446744073709551616 := by rw [← hx]; exact HX.out.2.2.1.get j hj
            rw [hx] at cx hstep
            have hm0 : 0 < m := by have := HM.out.1; omega
            have hsh := shiftIn_nm p q pn pr n m _ x wr hN (OFFM.out wr hK) hpn hxw (Nat.mod_lt _ hm0)
            have hval : (val (xs.drop (j + 1)) % m * 18446744073709551616 + x) % m = val (xs.drop j) % m := by
              rw [hstep, Nat.add_mod, Nat.mod_mul_mod, ← Nat.add_mod]
            rw [hval] at hsh
            have HSH := Lib.hid hsh
            have HKK := Lib.hid hK
            have ej : ((j + 1 : Nat) : Int) - 1 = (j : Int) := by omega
            have ejl : (j : Int) < (xs.length : Int) := by omega
            clear hN hK hxr hx hstep hsh hval
            rw [ej]
            go_wp2_with fail
            refine HSH.out.mono ?_
            rintro e w3 ⟨rfl, hN, k3⟩
            have HN := Lib.hid hN
            have HK3 := Lib.hid (HKK.out.trans k3)
            clear hN k3 HSH
            go_wp2_with fail
            go_roundw
            case rel => exact ⟨j, by omega, by first | rfl | go_num, HN.out, HK3.out⟩
            case measure => first | (simp [intOf]; done) | (simp [intOf]; omega)

end Go.Proofs.YtdmpiecdpdknaaaGreatDoor
namespace Go.Proofs.YtdmpiecdpdknaaaGreatDoor
open Go.RowKit

theorem Md.flag {w : World} {q pn pr n m : Nat} (h : Md w q pn pr n m) : w.cell? ⟨q, 1, none⟩ = some (.bool (m % 2 == 1)) ∧ w.cell? ⟨q, 0, none⟩ = some (.pointer (some ⟨pn, 0, none⟩)) ∧ (m % 2 = 1 → w.cell? ⟨q, 3, none⟩ = some (.pointer (some ⟨pr, 0, none⟩))) := by
  obtain ⟨_, _, _, _, mi, rv, e, _, g⟩ := h
  exact ⟨e.cellIs rfl, e.cellIs rfl, fun ho => by rw [e.cellIs (i := 3) rfl]; exact congrArg some (g ho).2.1⟩

/-- A form of a number, in place. -/
def FormOut (p n m x : Nat) (w : World) (e : Ending) (w' : World) : Prop := ∃ z, z < m ∧ MF n m z x ∧ NmOut p n z w e w'

theorem montRep_nm (p q pn pr n m v : Nat) (w : World) (hx : Nm w p n v) (hm : Md w q pn pr n m) (ho : m % 2 = 1) (hpn : pn ≠ p) (hv : v < m) :
    Calls Tryz.prog 71 #[.pointer (some ⟨p, 0, none⟩), .pointer (some ⟨q, 0, none⟩)] w (FormOut p n m v w) := by
  have c3 := hm.flag.2.2 ho
  have hrr : Nm w pr n (Pw n * Pw n % m) := by
    obtain ⟨_, _, _, _, mi, rv, e, _, g⟩ := hm
    exact (g ho).2.2
  have HMM := Lib.hid (mont_nm p p pr q pn pr n v n m v (Pw n * Pw n % m) w hx hx hrr hm ho hpn hv)
  have HO := Lib.hid ho
  clear hx hm hrr ho hv
  go_enter Tryz.func71, Tryz.ntmps71
  go_wp2_with fail
  refine HMM.out.mono ?_
  rintro e w1 ⟨z, hz, hR, rfl, hN, hK⟩
  have hfin : FormOut p n m v w (.returned (.pointer (some ⟨p, 0, none⟩))) w1 := ⟨z, hz, MF.make HO.out rfl hz hR, rfl, hN, hK⟩
  have FIN := Lib.hid hfin
  clear hz hR hN hK hfin HMM
  go_wp2_with fail
  go_ret
  exact FIN.out

theorem Nm.setOne {w w' : World} {p n : Nat} (h : Nm w p n 0) (hn : 1 ≤ n) (hw : w' = w.setCell ⟨p - 1, 0, none⟩ (.int .u64 1)) : Nm w' p n 1 := by
  subst hw
  obtain ⟨rest, a, b, c⟩ := h.nought
  exact ⟨_, rest, a.setLimb 0 1 (by rw [noughts_length]; omega) (by decide), b, by rw [List.length_set, noughts_length], c, val_one n hn⟩
theorem Nm.limb0 {w : World} {p n : Nat} (h : Nm w p n 0) (hn : 1 ≤ n) : ∃ cp, w.cell? ⟨p, 0, none⟩ = some (.slice (some ⟨p - 1, 0, none⟩) n cp) ∧ w.cell? ⟨p - 1, 0, none⟩ = some (.int .u64 0) ∧ w.frozen? ⟨p - 1, 0, none⟩ = false := by
  obtain ⟨rest, a, b, c⟩ := h.nought
  refine ⟨n + rest.length, ?_, ?_, a.2.1.frozen 0⟩
  · have := a.cell; rw [noughts_length] at this; exact this
  · have := a.limb 0 (by rw [noughts_length]; omega)
    rw [this]; simp [noughts]

theorem montRed_nm (p q pn pr n m v x : Nat) (w : World) (hx : Nm w p n v) (hm : Md w q pn pr n m) (ho : m % 2 = 1) (hpn : pn ≠ p) (hv : v < m) (hF : MF n m v x) :
    Calls Tryz.prog 74 #[.pointer (some ⟨p, 0, none⟩), .pointer (some ⟨q, 0, none⟩)] w (NmOut p n (x % m) w) := by
  have hn1 := hm.2.1
  have hpl := hx.lt
  have HX := Lib.hid hx
  have HM := Lib.hid hm
  have HO := Lib.hid ho
  have HF := Lib.hid hF
  have HV := Lib.hid hv
  clear hx hm ho hF hv
  go_enter Tryz.func74, Tryz.ntmps74
  go_wp2_with fail
  refine (newNat_nm w).mono ?_
  rintro e w1 ⟨rfl, h1, k1⟩
  have hs1 := k1.size
  have HE := Lib.hid (expandFor_nm (w.heap.size + 1) q pn pr 0 0 n m w1 h1 (HM.out.still k1) (Nat.zero_le _))
  have K1 := Lib.hid k1
  clear h1 k1
  go_wp2_with fail
  refine HE.out.mono ?_
  rintro e w2 ⟨rfl, h2, k2⟩
  have k02 : Kept NoBlk w w2 := At2.new K1.out k2 (Nat.lt_succ_self _)
  obtain ⟨cp, c1, c2, f2⟩ := h2.limb0 hn1
  have hpos : (0 : Int) < (n : Int) := by omega
  have hone := h2.setOne (w' := w2.setCell ⟨w.heap.size + 1 - 1, 0, none⟩ (.int .u64 1)) hn1 rfl
  have hk3 : Kept NoBlk w (w2.setCell ⟨w.heap.size + 1 - 1, 0, none⟩ (.int .u64 1)) := k02.setNew (by omega) _ _
  rw [Nat.add_sub_cancel] at c1 c2 f2 hone hk3
  have hmm := mont_nm p p (w.heap.size + 1) q pn pr n v n m v 1 _ (HX.out.still hk3) (HX.out.still hk3) hone (HM.out.still hk3) HO.out hpn HV.out
  have HMM := Lib.hid hmm
  have HK3 := Lib.hid hk3
  clear h2 k2 k02 hone hk3 hmm HE K1
  go_wp2_with fail
  refine HMM.out.mono ?_
  rintro e w4 ⟨z, hz, hR, rfl, hN, hK⟩
  have hzv : z = x % m := HF.out.back HO.out hz hR
  subst hzv
  have hfin : NmOut p n (x % m) w (.returned (.pointer (some ⟨p, 0, none⟩))) w4 := ⟨rfl, hN, (HK3.out.mono (fun _ _ e => e.elim)).trans hK⟩
  have FIN := Lib.hid hfin
  clear hz hR hN hK hfin HMM
  go_wp2_with fail
  go_ret
  exact FIN.out

set_option maxRecDepth 8000 in
theorem mulOdd_nm (p p' q pn pr n m v v' : Nat) (w : World) (hx : Nm w p n v) (hy : Nm w p' n v') (hm : Md w q pn pr n m) (ho : m % 2 = 1) (hpn : pn ≠ p) (hv : v < m) :
    Calls Tryz.prog 66 #[.pointer (some ⟨p, 0, none⟩), .pointer (some ⟨p', 0, none⟩), .pointer (some ⟨q, 0, none⟩)] w (NmOut p n (v * v' % m) w) := by
  have hpl := hx.lt
  have hpl' := hy.lt
  have hql := hm.ltq
  have c1 := hm.flag.1
  rw [ho, show (1 == 1) = true from rfl] at c1
  have HX := Lib.hid hx
  have HY := Lib.hid hy
  have HM := Lib.hid hm
  have HO := Lib.hid ho
  have HV := Lib.hid hv
  clear hx hy hm ho hv
  go_enter Tryz.func66, Tryz.ntmps66
  go_wp2_with fail
  refine (newNat_nm w).mono ?_
  rintro e w1 ⟨rfl, h1, k1⟩
  have hs1 := k1.size
  have HS := Lib.hid (set_nm (w.heap.size + 1) p 0 0 n v w1 h1 (HX.out.still k1) (by omega))
  have K1 := Lib.hid k1
  clear h1 k1
  go_wp2_with fail
  refine HS.out.mono ?_
  rintro e w2 ⟨rfl, h2, k2⟩
  have k02 : Kept NoBlk w w2 := At2.new K1.out k2 (Nat.lt_succ_self _)
  have HRP := Lib.hid (montRep_nm (w.heap.size + 1) q pn pr n m v w2 h2 (HM.out.still k02) HO.out (by omega) HV.out)
  have K2 := Lib.hid k02
  clear h2 k2 k02 HS K1
  go_wp2_with fail
  refine HRP.out.mono ?_
  rintro e w3 ⟨z, hz, hF, rfl, h3, k3⟩
  have k03 : Kept NoBlk w w3 := At2.new K2.out k3 (Nat.lt_succ_self _)
  have hmm := mont_nm p (w.heap.size + 1) p' q pn pr n v n m z v' w3 (HX.out.still k03) h3 (HY.out.still k03) (HM.out.still k03) HO.out hpn hz
  have HMM := Lib.hid hmm
  have HF := Lib.hid hF
  have K3 := Lib.hid k03
  clear hz hF h3 k3 k03 hmm HRP K2
  go_wp2_with fail
  refine HMM.out.mono ?_
  rintro e w4 ⟨u, hu, hR, rfl, hN, hK⟩
  have huv : u = v * v' % m := HF.out.half HO.out hu hR
  subst huv
  have hfin : NmOut p n (v * v' % m) w (.returned (.pointer (some ⟨p, 0, none⟩))) w4 := ⟨rfl, hN, (K3.out.mono (fun _ _ e => e.elim)).trans hK⟩
  have FIN := Lib.hid hfin
  clear hu hR hN hK hfin HMM
  go_wp2_with fail
  go_ret
  exact FIN.out

end Go.Proofs.YtdmpiecdpdknaaaGreatDoor
