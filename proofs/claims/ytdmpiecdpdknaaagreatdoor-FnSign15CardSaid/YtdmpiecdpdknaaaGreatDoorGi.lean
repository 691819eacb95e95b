/-
  math/bits.Len, out of the library's shelf.
  bigmod.Nat.ExpShortVarTime.
-/
import Derived.Shelf.Small.Bits
import Derived.Shelf.Strconv.Itoa0
import Derived.Test.YtdmpiecdpdknaaaGreatDoorGd
import Derived.Test.YtdmpiecdpdknaaaGreatDoorGg
namespace Go.Proofs.YtdmpiecdpdknaaaGreatDoor
open Go.RowKit Go.Shelf

def lays125_ren : Go.Shelf.Ren := ⟨fun | 125 => 72 | 128 => 97 | 129 => 98 | n => n, fun | 46 => 67 | 3 => 3 | 51 => 127 | 53 => 129 | 4 => 4 | 5 => 5 | 9 => 9 | n => n, fun | n => n⟩
theorem lays125 : Go.Proofs.Lays.n125 Tryz.prog lays125_ren := {
  mixed := by kernel_rfl
  f125 := Tryz.func72.trans (congrArg some (by kernel_rfl))
  f128 := Tryz.func97.trans (congrArg some (by kernel_rfl))
  f129 := Tryz.func98.trans (congrArg some (by kernel_rfl))
  t3 := Tryz.underlying3
  a3 := Tryz.isAgg3
  z3 := Tryz.sizeOf3
  v3 := Tryz.zeroValue3
  t4 := Tryz.underlying4
  a4 := Tryz.isAgg4
  z4 := Tryz.sizeOf4
  v4 := Tryz.zeroValue4
  t5 := Tryz.underlying5
  a5 := Tryz.isAgg5
  z5 := Tryz.sizeOf5
  v5 := Tryz.zeroValue5
  t9 := Tryz.underlying9
  a9 := Tryz.isAgg9
  z9 := Tryz.sizeOf9
  v9 := Tryz.zeroValue9
  t46 := Tryz.underlying67
  a46 := Tryz.isAgg67
  z46 := Tryz.sizeOf67
  v46 := Tryz.zeroValue67
  t51 := Tryz.underlying127
  a51 := Tryz.isAgg127
  z51 := Tryz.sizeOf127
  v51 := Tryz.zeroValue127
  t53 := Tryz.underlying129
  a53 := Tryz.isAgg129
  z53 := Tryz.sizeOf129
  v53 := Tryz.zeroValue129 }

theorem bitLenAux_eq (f x : Nat) (h : x < 2 ^ f) : Lib.bitLenAux f x = bitLen x := by
  induction f generalizing x with
  | zero =>
    have : x = 0 := by simp at h; omega
    subst this; rfl
  | succ f ih =>
    unfold Lib.bitLenAux
    split
    · next h0 => subst h0; rfl
    · next h0 => rw [ih _ (by rw [Nat.pow_succ] at h; omega), bitLen_half x (by omega), Nat.add_comm]

theorem bitsLen_any (x : Nat) (w : World) (hx : x < 18446744073709551616) :
    Calls Tryz.prog 72 #[.int .u64 (x : Int)] w fun e w' => e = .returned (.int .i64 (bitLen x : Int)) ∧ w = w' := by
  refine (Any.bits_Len lays125 (x : Int) w (by omega) (by omega)).mono ?_
  rintro e w' ⟨rfl, rfl⟩
  have e : Lib.bitLen ((x : Int).toNat) = bitLen x := by
    rw [Int.toNat_natCast]
    exact bitLenAux_eq 64 x hx
  rw [e]
  exact ⟨rfl, rfl⟩

end Go.Proofs.YtdmpiecdpdknaaaGreatDoor
namespace Go.Proofs.YtdmpiecdpdknaaaGreatDoor
open Go.RowKit

theorem shr_top (e l : Nat) (h : bitLen e = l + 1) : e / 2 ^ l = 1 := by
  have a := (bitLen_le e (l + 1)).1 (by omega)
  have b : 2 ^ l ≤ e := by
    apply Classical.byContradiction
    intro hc
    have := (bitLen_le e l).2 (by omega)
    omega
  rw [Nat.pow_succ] at a
  apply Nat.div_eq_of_lt_le
  · omega
  · rw [Nat.add_mul, Nat.one_mul]; omega

theorem shr_int (e i s : Nat) (h : e / 2 ^ i = s) : (e : Int) / 2 ^ i = (s : Int) := by
  have e1 : (2 : Int) ^ i = ((2 ^ i : Nat) : Int) := by rw [Int.natCast_pow]; rfl
  rw [e1, ← h, Int.natCast_ediv]

set_option maxHeartbeats 1000000 in
theorem expShort_nm (po px q pn pr no vo n m v e : Nat) (w : World) (hpo : Nm w po no vo) (hx : Nm w px n v) (hm : Md w q pn pr n m) (ho : m % 2 = 1) (hpn : pn ≠ po) (hpr : pr ≠ po) (hv : v < m) (he0 : 0 < e) (he : e < 18446744073709551616) :
    Calls Tryz.prog 46 #[.pointer (some ⟨po, 0, none⟩), .pointer (some ⟨px, 0, none⟩), .int .u64 e, .pointer (some ⟨q, 0, none⟩)] w (NmOut po n (v ^ e % m) w) := by
  have hpol := hpo.lt
  have hpxl := hx.lt
  have hql := hm.ltq
  have c1 := hm.flag.1
  rw [ho, show (1 == 1) = true from rfl] at c1
  obtain ⟨l, hl⟩ : ∃ l, bitLen e = l + 1 := by
    have : ¬ bitLen e ≤ 0 := fun h => by
      have := (bitLen_le e 0).1 h
      simp at this; omega
    exact ⟨bitLen e - 1, by omega⟩
  have hl64 : l ≤ 63 := by have := (bitLen_le e 64).2 (by omega); omega
  have HPO := Lib.hid hpo
  have HX := Lib.hid hx
  have HM := Lib.hid hm
  have HO := Lib.hid ho
  have HV := Lib.hid hv
  have HL := Lib.hid hl
  have HE := Lib.hid he
  have hbl := fun w' => bitsLen_any e w' he
  rw [hl] at hbl
  have HBL := Lib.hid hbl
  clear hpo hx hm ho hv hl hbl he
  go_enter Tryz.func46, Tryz.ntmps46
  go_wp2_with fail
  refine (newNat_nm w).mono ?_
  rintro x w1 ⟨rfl, h1, k1⟩
  have hs1 := k1.size
  have HS := Lib.hid (set_nm (w.heap.size + 1) px 0 0 n v w1 h1 (HX.out.still k1) (by omega))
  have K1 := Lib.hid k1
  clear h1 k1
  go_wp2_with fail
  refine HS.out.mono ?_
  rintro x w2 ⟨rfl, h2, k2⟩
  have k02 : Kept NoBlk w w2 := At2.new K1.out k2 (Nat.lt_succ_self _)
  have HRP := Lib.hid (montRep_nm (w.heap.size + 1) q pn pr n m v w2 h2 (HM.out.still k02) HO.out (by omega) HV.out)
  have K2 := Lib.hid k02
  clear h2 k2 k02 HS K1
  go_wp2_with fail
  refine HRP.out.mono ?_
  rintro x w3 ⟨z, hz, hF, rfl, h3, k3⟩
  have k03 : Kept NoBlk w w3 := At2.new K2.out k3 (Nat.lt_succ_self _)
  have HS2 := Lib.hid (set_nm po (w.heap.size + 1) no vo n z w3 (HPO.out.still k03) h3 (by omega))
  have H3 := Lib.hid h3
  have HP3 := Lib.hid (HPO.out.still k03)
  have HF := Lib.hid hF
  have HZ := Lib.hid hz
  have K3 := Lib.hid k03
  clear hz hF h3 k3 k03 HRP K2
  go_wp2_with fail
  refine HS2.out.mono ?_
  rintro x w4 ⟨rfl, h4, k4⟩
  have HR4 := Lib.hid (H3.out.away HP3.out (by omega) k4)
  have H4 := Lib.hid h4
  have K4 : Hid (Kept (At2 po) w w4) := Lib.hid ((K3.out.mono (fun _ _ e => e.elim)).trans k4)
  clear h4 k4 HS2
  go_wp2_with fail
  refine (HBL.out _).mono ?_
  rintro x w5 ⟨rfl, rfl⟩
  clear HBL
  go_wp2_with fail
  go_loopw [10] (fun iv wr => ∃ (i t u : Nat), i + t = 64 ∧ t ≤ l ∧ iv = .int .i64 (i : Int) ∧ u < m ∧ MF n m u (v ^ (e / 2 ^ t)) ∧ Nm wr po n u ∧ Nm wr (w.heap.size + 1) n z ∧ Kept (At2 po) w wr) (fun iv _ => 64 - (intOf iv).toNat)
  case atStart => exact ⟨64 - l, l, z, by omega, Nat.le_refl _, by first | rfl | (congr 1; omega), HZ.out, by rw [shr_top e l HL.out, Nat.pow_one]; exact HF.out, H4.out, HR4.out, K4.out⟩
  case round =>
    obtain ⟨i, t, u, hit, htl, rfl, hu, hFu, hN, hR, hK⟩ := hrel
    clear H4 HR4 K4
    have hmr := HM.out.away HPO.out hpn hpr hK
    rcases Nat.eq_zero_or_pos t with h0 | h0
    · subst h0
      rw [Nat.pow_zero, Nat.div_one] at hFu
      have HRD := Lib.hid (montRed_nm po q pn pr n m u _ wr hN hmr HO.out hpn hu hFu)
      have HK := Lib.hid hK
      have hi64 : ¬ (i : Int) < 64 := by omega
      clear hu hFu hN hR hK hmr
      go_wp2_with fail
      refine HRD.out.mono ?_
      rintro x w6 ⟨rfl, h6, k6⟩
      have hfin : NmOut po n (v ^ e % m) w (.returned (.pointer (some ⟨po, 0, none⟩))) w6 := ⟨rfl, h6, HK.out.trans k6⟩
      have FIN := Lib.hid hfin
      clear h6 k6 hfin HRD
      go_wp2_with fail
      go_ret
      exact FIN.out
    · obtain ⟨s, rfl⟩ : ∃ s, t = s + 1 := ⟨t - 1, by omega⟩
      have HMM := Lib.hid (mont_nm po po po q pn pr n u n m u u wr hN hN hN hmr HO.out hpn hu)
      have hst := shr_step e s
      obtain ⟨g, hg⟩ : ∃ g, e / 2 ^ s = g := ⟨_, rfl⟩
      rw [hg] at hst
      have hge : g < 18446744073709551616 := by rw [← hg]; exact Nat.lt_of_le_of_lt (Nat.div_le_self _ _) HE.out
      have hsh := shr_int e s g hg
      have hand : bits .and .u64 (g : Int) 1 = ((g % 2 : Nat) : Int) := by
        have := bits_and_u64_nat g 1 hge (by omega)
        rw [Nat.and_one_is_mod] at this
        exact this
      have hi64 : (i : Int) < 64 := by omega
      have e1 : (64 : Int) - (i : Int) - 1 = (s : Int) := by omega
      have HG := Lib.hid hg
      have HST := Lib.hid hst
      have HFU := Lib.hid hFu
      have HN := Lib.hid hN
      have HRR := Lib.hid hR
      have HK := Lib.hid hK
      have hs64 : (s : Int) ≤ 64 := by omega
      clear hu hFu hN hR hK hmr hg hst hge
      go_wp2_with fail
      refine HMM.out.mono ?_
      rintro x w6 ⟨u2, hu2, hR2, rfl, h6, k6⟩
      have hF2 := HFU.out.mul HO.out HFU.out hu2 hR2
      rw [← Nat.pow_add, ← Nat.two_mul] at hF2
      have k06 := HK.out.trans k6
      have hr6 := HRR.out.away HN.out (by omega) k6
      have HK6 := Lib.hid k06
      have HR6 := Lib.hid hr6
      have HN6 := Lib.hid h6
      have HU2 := Lib.hid hu2
      by_cases hodd : g % 2 = 1
      · rw [hodd] at hand
        have HMM2 := Lib.hid (mont_nm po po (w.heap.size + 1) q pn pr n u2 n m u2 z w6 h6 h6 hr6 (HM.out.away HPO.out hpn hpr k06) HO.out hpn hu2)
        have HF3 : Hid (∀ z', z' < m → 18446744073709551616 ^ n * z' % m = u2 * z % m → MF n m z' (v ^ (e / 2 ^ s))) := Lib.hid (fun z' h1 h2 => by
          have := hF2.mul HO.out HF.out h1 h2
          rw [← Nat.pow_succ, show (2 * (e / 2 ^ (s + 1))).succ = g by have := HST.out; omega] at this
          rw [HG.out]; exact this)
        clear hu2 hR2 h6 k6 hF2 k06 hr6 HMM hodd
        go_wp2_with fail
        refine HMM2.out.mono ?_
        rintro x w7 ⟨u3, hu3, hR3, rfl, h7, k7⟩
        have HF4 := Lib.hid (HF3.out u3 hu3 hR3)
        have HU3 := Lib.hid hu3
        have HN7 := Lib.hid h7
        have HR7 := Lib.hid (HR6.out.away HN6.out (by omega) k7)
        have HK7 := Lib.hid (HK6.out.trans k7)
        clear hu3 hR3 h7 k7 HMM2
        go_wp2_with fail
        go_roundw
        case rel => exact ⟨i + 1, s, u3, by omega, by omega, by go_num, HU3.out, HF4.out, HN7.out, HR7.out, HK7.out⟩
        case measure => first | (simp [intOf]; done) | (simp [intOf]; omega)
      · have hev : g % 2 = 0 := by omega
        rw [hev] at hand
        have HF4 : Hid (MF n m u2 (v ^ (e / 2 ^ s))) := Lib.hid (by
          rw [show 2 * (e / 2 ^ (s + 1)) = g by have := HST.out; omega] at hF2
          rw [HG.out]; exact hF2)
        clear hu2 hR2 h6 k6 hF2 k06 hr6 HMM hodd hev
        go_wp2_with fail
        go_roundw
        case rel => exact ⟨i + 1, s, u2, by omega, by omega, by go_num, HU2.out, HF4.out, HN6.out, HR6.out, HK6.out⟩
        case measure => first | (simp [intOf]; done) | (simp [intOf]; omega)

end Go.Proofs.YtdmpiecdpdknaaaGreatDoor
