/-
  bigmod.rr.
-/
import Derived.Test.YtdmpiecdpdknaaaGreatDoorGl
import Derived.Test.YtdmpiecdpdknaaaGreatDoorGc
import Derived.Test.YtdmpiecdpdknaaaGreatDoorGd
namespace Go.Proofs.YtdmpiecdpdknaaaGreatDoor
open Go.RowKit

/-- A number of its own, in n words, of a given value. -/
def FreshN (n v : Nat) (w : World) (e : Ending) (w' : World) : Prop := ∃ xs, xs.length = n ∧ val xs = v ∧ Fresh xs w e w'

/-- The state of its making: the number v. -/
def RrSt (p b n : Nat) (rest : List Nat) (w : World) (v : Nat) (wr : World) : Prop := ∃ xs, NatAt wr p b xs rest ∧ xs.length = n ∧ val xs = v ∧ Kept NoBlk w wr

theorem rr_dbl (p b q pn bn n m v : Nat) (rest ms mr : List Nat) (mi : Nat) (rv : Value) (w wr : World) (hm : ModAt w q pn bn ms mr true mi rv) (hn : ms.length = n) (hv : val ms = m) (hnm : n + mr.length ≤ 1000000) (hnr : n + rest.length ≤ 1000000) (hb : w.heap.size ≤ b)
    (hs : RrSt p b n rest w v wr) (hvm : v < m) :
    Calls Tryz.prog 68 #[.pointer (some ⟨p, 0, none⟩), .pointer (some ⟨p, 0, none⟩), .pointer (some ⟨q, 0, none⟩)] wr fun e w' =>
      e = .returned (.pointer (some ⟨p, 0, none⟩)) ∧ RrSt p b n rest w ((v + v) % m) w' := by
  obtain ⟨xs, h1, h2, h3, h4⟩ := hs
  have hbn := hm.2.lt.2
  refine (modAdd_any p b p b q pn bn xs rest xs rest ms mr true mi rv wr h1 h1 (hm.still h4) (.inr ⟨rfl, rfl⟩) (by omega) (h2.trans hn.symm) (h2.trans hn.symm) (by rw [hn]; exact hnm) (by rw [h2]; exact hnr) (by rw [h3, hv]; exact hvm) (by rw [h3, hv]; exact hvm)).mono ?_
  rintro e w' ⟨rfl, zs, z1, z2, z3, z4⟩
  exact ⟨rfl, zs, z2, z1.trans h2, by rw [z4, h3, hv], h4.fresh z3 hb⟩

theorem rr_sq (p b q pn bn n m v : Nat) (rest ms mr : List Nat) (mi : Nat) (rv : Value) (w wr : World) (hm : ModAt w q pn bn ms mr true mi rv) (hn : ms.length = n) (hv : val ms = m) (hn1 : 1 ≤ n) (hnm : n + mr.length ≤ 1000000) (hnr : n + rest.length ≤ 1000000) (hb : w.heap.size ≤ b) (hp : w.heap.size ≤ p)
    (hinv : ms.headD 0 * mi % 18446744073709551616 = 18446744073709551615) (hs : RrSt p b n rest w v wr) (hvm : v < m) :
    Calls Tryz.prog 73 #[.pointer (some ⟨p, 0, none⟩), .pointer (some ⟨p, 0, none⟩), .pointer (some ⟨p, 0, none⟩), .pointer (some ⟨q, 0, none⟩)] wr fun e w' =>
      e = .returned (.pointer (some ⟨p, 0, none⟩)) ∧ ∃ z rest', RrSt p b n rest' w z w' ∧ rest'.length = rest.length ∧ z < m ∧ Pw n * z % m = v * v % m := by
  obtain ⟨xs, h1, h2, h3, h4⟩ := hs
  have hl := hm.2.lt
  refine (montMul_any p b p b p b q pn bn n xs rest xs rest xs rest ms mr mi rv wr h1 h1 h1 (hm.still h4) hn h2 h2 hn1 hnm hnr hnr (by omega) (by omega) hinv (by rw [h3, hv]; exact hvm)).mono ?_
  rintro e w' ⟨rfl, b', zs, rest', z1, z2, z3, z4, z5, z6, z7⟩
  rw [h2] at z3
  rcases z3 with ⟨rfl, hr⟩ | ⟨_, hr⟩
  · rw [hv] at z6 z7
    rw [h3] at z7
    exact ⟨rfl, val zs, rest', ⟨zs, z2, z1, rfl, h4.step z5 (fun i hi e => by unfold Both at e; omega)⟩, by omega, z6, z7⟩
  · omega

theorem rr_start (p b n m T : Nat) (rest : List Nat) (w wr w' : World) (h : NatAt wr p b (noughts n) rest) (hk : Kept NoBlk w wr) (hb : w.heap.size ≤ b) (hn1 : 1 ≤ n) (hT1 : T < 64 * n) (hT2 : 64 * (n - 1) ≤ T) (hTm : 2 ^ T < m)
    (hw : w' = wr.setCell ⟨b, n - 1, none⟩ (.int .u64 (IntKind.u64.wrap (2 ^ (T % 64))))) : RrSt p b n rest w (2 ^ T % m) w' := by
  have hl : 2 ^ (T % 64) < 18446744073709551616 := Nat.pow_lt_pow_right (a := 2) (by decide) (show T % 64 < 64 by omega)
  have e : IntKind.u64.wrap (2 ^ (T % 64)) = ((2 ^ (T % 64) : Nat) : Int) := by
    have : (2 : Int) ^ (T % 64) = ((2 ^ (T % 64) : Nat) : Int) := by rw [Int.natCast_pow]; rfl
    rw [this, IntKind.wrap_u64]
    generalize 2 ^ (T % 64) = u at *
    omega
  rw [e] at hw
  subst hw
  refine ⟨_, h.setLimb (n - 1) (2 ^ (T % 64)) (by rw [noughts_length]; omega) hl, by rw [List.length_set, noughts_length], ?_, hk.setNew hb _ _⟩
  have := val_set (noughts n) (n - 1) (2 ^ (T % 64)) (by rw [noughts_length]; omega)
  rw [val_noughts, Nat.zero_add, show (noughts n)[n - 1]'(by rw [noughts_length]; omega) = 0 by simp [noughts], Nat.mul_zero, Nat.add_zero] at this
  rw [this, Nat.mod_eq_of_lt hTm, show Pw (n - 1) = 2 ^ (64 * (n - 1)) from (by rw [Nat.pow_mul]; rfl), ← Nat.pow_add]
  congr 1
  omega

theorem shr_nat (n i s : Nat) (h : 64 * n / 2 ^ i = s) : (64 * (n : Int)) / 2 ^ i = (s : Int) := by
  have e : (2 : Int) ^ i = ((2 ^ i : Nat) : Int) := by rw [Int.natCast_pow]; rfl
  rw [e, ← h, Int.natCast_ediv, Int.natCast_mul]; rfl
theorem shr_step (L i : Nat) : L / 2 ^ i = 2 * (L / 2 ^ (i + 1)) + L / 2 ^ i % 2 := by
  rw [Nat.pow_succ, ← Nat.div_div_eq_div_mul]; omega

set_option maxHeartbeats 2000000 in
theorem rr_any (q pn bn n m T : Nat) (ms mr : List Nat) (mi : Nat) (rv : Value) (w : World) (hm : ModAt w q pn bn ms mr true mi rv) (hn : ms.length = n) (hv : val ms = m) (hn1 : 1 ≤ n) (hnm : n + mr.length ≤ 500000) (ho : m % 2 = 1) (h1 : 1 < m)
    (hT : bitLen m = T + 1) (hge : Pw (n - 1) ≤ m) (hinv : ms.headD 0 * mi % 18446744073709551616 = 18446744073709551615) :
    Calls Tryz.prog 82 #[.pointer (some ⟨q, 0, none⟩)] w (FreshN n (Pw n * Pw n % m) w) := by
  have hT1 : T < 64 * n := by
    have := bitLen_val_le ms hm.2.2.2.1
    rw [hv, hn, hT] at this; omega
  have hT2 : 64 * (n - 1) ≤ T := by
    apply Classical.byContradiction
    intro hc
    have := (bitLen_le m (64 * (n - 1))).1 (by omega)
    rw [Nat.pow_mul] at this
    have h2 : Pw (n - 1) = (2 ^ 64) ^ (n - 1) := rfl
    omega
  have hTm : 2 ^ T < m := by
    have h2 : 2 ^ T ≤ m := by
      apply Classical.byContradiction
      intro hc
      have := (bitLen_le m T).2 (by omega)
      omega
    rcases Nat.eq_or_lt_of_le h2 with h | h
    · cases T with
      | zero => simp at h; omega
      | succ T => rw [Nat.pow_succ] at h; omega
    · exact h
  have HM := Lib.hid hm
  have HN := Lib.hid hn
  have HV := Lib.hid hv
  have HINV := Lib.hid hinv
  have HO := Lib.hid ho
  have H1 := Lib.hid h1
  have HTM := Lib.hid hTm
  have hb := modBitLen_any q pn bn ms mr true mi rv w hm (by omega)
  clear hge hTm hinv h1 ho hv
  go_enter Tryz.func82, Tryz.ntmps82
  go_wp2_with fail
  refine (newNat_any w).mono ?_
  rintro e w1 ⟨rfl, h1, k1⟩
  have hexp := expandFor_any (w.heap.size + 1) w.heap.size q pn bn [] (noughts 32) ms mr true mi rv w1 h1 (HM.out.still k1) (by simp) (by omega)
  have HE := Lib.hid hexp
  have K1 := Lib.hid k1
  have hs1 := k1.size
  have hpl := hm.2.lt
  have hql := hm.1.lt
  clear h1 k1 hexp hm hb hn
  go_wp2_with fail
  refine HE.out.mono ?_
  rintro e w2 ⟨rfl, b, rest, h2, h3, h4, h5⟩
  have hk : Kept NoBlk w w2 := K1.out.step h5 (fun i hi e => by unfold Both at e; omega)
  have hb2 : w.heap.size ≤ b := by omega
  rw [List.nil_append, List.length_nil, Nat.sub_zero, HN.out] at h2 h3 h4
  rw [noughts_length, noughts_length, Nat.zero_add] at h3 h4
  have hcap : (n ≤ 32 → b = w.heap.size ∧ n + rest.length = 32) ∧ n + rest.length ≤ max n 32 := ⟨fun h => by omega, h4⟩
  have c1 := h2.cell
  rw [noughts_length] at c1
  have cx := h2.limb (n - 1) (by rw [noughts_length]; omega)
  have fx := h2.2.1.frozen (n - 1)
  have hmb := modBitLen_any q pn bn ms mr true mi rv w2 (HM.out.still hk) (by have := HN.out; omega)
  rw [HV.out, hT] at hmb
  have HMB := Lib.hid hmb
  have HK := Lib.hid hk
  have H2 := Lib.hid h2
  have HCAP := Lib.hid hcap
  clear h2 h3 h4 h5 hk hmb hcap HE K1 hT
  have e1 : ((n : Int) - 1) = ((n - 1 : Nat) : Int) := by omega
  have e2 : ((n - 1 : Nat) : Int) < (n : Int) := by omega
  go_wp2_with fail
  refine HMB.out.mono ?_
  rintro e w' ⟨rfl, rfl⟩
  clear HMB
  have hst : ∀ w', w' = w2.setCell ⟨b, n - 1, none⟩ (.int .u64 (IntKind.u64.wrap (2 ^ (T % 64)))) → RrSt (w.heap.size + 1) b n rest w (2 ^ T % m) w' := fun w' h => rr_start _ b n m T rest w w2 w' H2.out HK.out hb2 hn1 hT1 hT2 HTM.out h
  have HST := Lib.hid hst
  clear hst H2
  go_wp2_with fail
  clear c1 cx fx
  go_loopw [7] (fun iv wr => ∃ i : Nat, T ≤ i ∧ i ≤ 64 * n ∧ iv = .int .u64 (i : Int) ∧ RrSt (w.heap.size + 1) b n rest w (2 ^ i % m) wr) (fun iv _ => 64 * n - (intOf iv).toNat)
  case atStart => exact ⟨T, Nat.le_refl _, by omega, rfl, HST.out _ rfl⟩
  case round =>
    obtain ⟨i, hi1, hi2, rfl, hS⟩ := hrel
    clear HST
    by_cases hlt : i < 64 * n
    · have hadd := rr_dbl _ b q pn bn n m _ rest ms mr mi rv w wr HM.out HN.out HV.out (by omega) (by have := HCAP.out.2; omega) hb2 hS (Nat.mod_lt _ (by have := H1.out; omega))
      rw [dbl_step rfl] at hadd
      have HADD := Lib.hid hadd
      clear hadd hS
      go_wp2_with fail
      refine HADD.out.mono ?_
      rintro e w' ⟨rfl, hS⟩
      have HS := Lib.hid hS
      clear hS HADD
      go_wp2_with fail
      go_roundw
      case rel => exact ⟨i + 1, by omega, by omega, by go_num, HS.out⟩
      case measure => simp [intOf]; omega
    · obtain rfl : i = 64 * n := by omega
      have HS := Lib.hid hS
      clear hS hlt hi1 hi2
      go_wp2_with fail
      go_loop [9] (fun iv => ∃ i : Nat, i ≤ 64 ∧ iv = .int .i64 (i : Int)) (fun iv => (intOf iv).toNat)
      case atStart => exact ⟨64, by omega, rfl⟩
      case round =>
        obtain ⟨i, hi, rfl⟩ := hrel
        obtain ⟨s, hs⟩ : ∃ s, 64 * n / 2 ^ i = s := ⟨_, rfl⟩
        have hsh := shr_nat n i s hs
        rcases Nat.lt_or_ge (n / 4) s with hgt | hle
        · have hc : ¬ (s : Int) ≤ (n : Int) / 4 := by omega
          have HSS := Lib.hid hs
          have hsl : s ≤ 64 * n := by rw [← hs]; exact Nat.div_le_self _ _
          clear hs
          go_wp2_with fail
          go_loopw [10] (fun kv wr => ∃ (k v : Nat), k ≤ s ∧ kv = .int .u64 (k : Int) ∧ RrSt (w.heap.size + 1) b n rest w v wr ∧ MF n m v (2 ^ k)) (fun kv _ => s - (intOf kv).toNat)
          case atStart => exact ⟨0, _, Nat.zero_le _, rfl, HS.out, by unfold MF; rw [Nat.pow_zero, Nat.one_mul, Nat.pow_mul]⟩
          case round =>
            obtain ⟨k, v, hk, rfl, hS, hF⟩ := hrel
            clear HS
            by_cases hlt : k < s
            · have hadd := rr_dbl _ b q pn bn n m _ rest ms mr mi rv w _ HM.out HN.out HV.out (by omega) (by have := HCAP.out.2; omega) hb2 hS (hF.lt (by have := H1.out; omega))
              have HADD := Lib.hid hadd
              have HF := Lib.hid (two_step hF)
              clear hadd hS hF
              go_wp2_with fail
              refine HADD.out.mono ?_
              rintro e w' ⟨rfl, hS⟩
              have HS := Lib.hid hS
              clear hS HADD
              go_wp2_with fail
              go_roundw
              case rel => exact ⟨k + 1, _, by omega, by go_num, HS.out, HF.out⟩
              case measure => simp [intOf]; omega
            · obtain rfl : k = s := by omega
              have HS := Lib.hid hS
              have HF : Hid (MF n m v (2 ^ (64 * n / 2 ^ i))) := Lib.hid (by rw [HSS.out]; exact hF)
              clear hS hF hlt HSS
              go_wp2_with fail
              clear hgt hsl hc hk hsh
              go_loopw [9] (fun iv wr => ∃ (j v : Nat) (rest' : List Nat), j ≤ i ∧ iv = .int .i64 (j : Int) ∧ RrSt (w.heap.size + 1) b n rest' w v wr ∧ rest'.length = rest.length ∧ MF n m v (2 ^ (64 * n / 2 ^ j))) (fun iv _ => (intOf iv).toNat)
              case atStart => exact ⟨i, v, rest, Nat.le_refl _, rfl, HS.out, rfl, HF.out⟩
              case round =>
                obtain ⟨j, v, rest', hj, rfl, hS, hr, hF⟩ := hrel
                clear HS HF
                have hcap : (n ≤ 32 → b = w.heap.size ∧ n + rest'.length = 32) ∧ n + rest'.length ≤ max n 32 := by rw [hr]; exact HCAP.out
                rcases Nat.eq_zero_or_pos j with h0 | h0
                · subst h0
                  have hval : v = Pw n * Pw n % m := by
                    rw [Nat.pow_zero, Nat.div_one] at hF
                    exact rr_end hF
                  have hfin : FreshN n (Pw n * Pw n % m) w (.returned (.pointer (some ⟨w.heap.size + 1, 0, none⟩))) wr := by
                    obtain ⟨xs, h1, h2, h3, h4⟩ := hS
                    exact ⟨xs, h2, h3.trans hval, w.heap.size + 1, b, rest', rfl, by omega, hb2, h1, by rw [h2]; exact hcap.2, by rw [h2]; intro h; exact ⟨rfl, (hcap.1 h).1, (hcap.1 h).2⟩, h4⟩
                  have FIN := Lib.hid hfin
                  have hz : ¬ (0 : Int) < ((0 : Nat) : Int) := by omega
                  clear hfin hval hS hF hr hcap
                  go_wp2_with fail
                  go_ret
                  exact FIN.out
                · obtain ⟨l, rfl⟩ : ∃ l, j = l + 1 := ⟨j - 1, by omega⟩
                  have hvm := hF.lt (show 0 < m by have := H1.out; omega)
                  have hsq := rr_sq _ b q pn bn n m v rest' ms mr mi rv w _ HM.out HN.out HV.out hn1 (by omega) (by have := hcap.2; omega) hb2 (by omega) HINV.out hS hvm
                  have HSQ := Lib.hid hsq
                  have HF := Lib.hid hF
                  have HR := Lib.hid hr
                  have hpos : (0 : Int) < ((l + 1 : Nat) : Int) := by omega
                  clear hsq hF hS hr hvm hcap
                  go_wp2_with fail
                  refine HSQ.out.mono ?_
                  rintro e w5 ⟨rfl, z, rest5, hS, hr5, hzm, hz⟩
                  have hF := HF.out.mul HO.out HF.out hzm hz
                  rw [← Nat.pow_add, ← Nat.two_mul] at hF
                  have hst := shr_step (64 * n) l
                  obtain ⟨s, hs⟩ : ∃ s, 64 * n / 2 ^ l = s := ⟨_, rfl⟩
                  have hsh := shr_nat n l s hs
                  have hcap : n + rest5.length ≤ 1000000 := by rw [hr5, HR.out]; have := HCAP.out.2; omega
                  have hsl : s < 18446744073709551616 := by
                    have := Nat.div_le_self (64 * n) (2 ^ l)
                    omega
                  have hand : bits .and .u64 (s : Int) 1 = ((s % 2 : Nat) : Int) := by
                    have := bits_and_u64_nat s 1 hsl (by omega)
                    rw [Nat.and_one_is_mod] at this
                    exact this
                  have hr6 : rest5.length = rest.length := hr5.trans HR.out
                  have HR6 := Lib.hid hr6
                  have HSS := Lib.hid hs
                  rw [hs] at hst
                  by_cases hodd : s % 2 = 1
                  · have hadd := rr_dbl _ b q pn bn n m z rest5 ms mr mi rv w _ HM.out HN.out HV.out (by omega) hcap hb2 hS hzm
                    have HADD := Lib.hid hadd
                    rw [hodd] at hand hst
                    have HF2 : Hid (MF n m ((z + z) % m) (2 ^ (64 * n / 2 ^ l))) := Lib.hid (by rw [HSS.out, hst]; exact two_step hF)
                    clear hadd hF hS hr5 hr6 hz hzm hst hs hodd HF HR HSQ hsl
                    go_wp2_with fail
                    refine HADD.out.mono ?_
                    rintro e w6 ⟨rfl, hS⟩
                    have HS := Lib.hid hS
                    clear hS HADD
                    go_wp2_with fail
                    go_roundw
                    case rel => exact ⟨l, _, rest5, by omega, by go_num, HS.out, HR6.out, HF2.out⟩
                    case measure => simp [intOf]
                  · have hev : s % 2 = 0 := by omega
                    rw [hev] at hand hst
                    have HF2 : Hid (MF n m z (2 ^ (64 * n / 2 ^ l))) := Lib.hid (by rw [HSS.out, hst, Nat.add_zero]; exact hF)
                    have HS := Lib.hid hS
                    clear hF hS hr5 hr6 hz hzm hst hs hodd hev HF HR HSQ hsl
                    go_wp2_with fail
                    go_roundw
                    case rel => exact ⟨l, _, rest5, by omega, by go_num, HS.out, HR6.out, HF2.out⟩
                    case measure => simp [intOf]
        · have hc : (s : Int) ≤ (n : Int) / 4 := by omega
          have hi0 : i ≠ 0 := by
            rintro rfl
            simp at hs; omega
          clear hs
          go_wp2_with fail
          go_round
          case rel => exact ⟨i - 1, by omega, by first | go_num | (congr 1; omega)⟩
          case measure => simp [intOf]; omega

end Go.Proofs.YtdmpiecdpdknaaaGreatDoor
