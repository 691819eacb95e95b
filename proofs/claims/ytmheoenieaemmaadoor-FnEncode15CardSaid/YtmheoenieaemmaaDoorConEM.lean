/-
  rsa.PublicKey.Size, rsa.pkcs1v15ConstructEM.
-/
import Derived.Test.YtmheoenieaemmaaDoorSpecEnc
import Derived.Test.YtmheoenieaemmaaDoorMake
import Derived.Test.YtmheoenieaemmaaDoorNewMod
import Derived.BigQuiet
import Derived.Deep.QuietTactic
namespace Go.Proofs.YtmheoenieaemmaaDoor
open Go.RowKit

theorem pubSize_any (pp q pn bn : Nat) (ms mr : List Nat) (od : Bool) (mi : Nat) (rv : Value) (w : World) (hp : w.cell? ⟨pp, 0, none⟩ = some (.pointer (some ⟨q, 0, none⟩))) (hm : ModAt w q pn bn ms mr od mi rv) (hn : ms.length + mr.length ≤ 1000000) :
    Calls Tryd.prog 76 #[.pointer (some ⟨pp, 0, none⟩)] w fun e w' => e = .returned (.int .i64 (((bitLen (val ms) + 7) / 8 : Nat) : Int)) ∧ w = w' := by
  have HB := Lib.hid (modBitLen_any q pn bn ms mr od mi rv w hm hn)
  have hb := bitLen_val_le ms hm.2.2.2.1
  obtain ⟨l, hl⟩ : ∃ l, bitLen (val ms) = l := ⟨_, rfl⟩
  rw [hl] at HB hb ⊢
  have hd : ((l : Int) + 7).tdiv 8 = (((l + 7) / 8 : Nat) : Int) := by rw [Int.tdiv_eq_ediv_of_nonneg (by omega)]; omega
  clear hm hl
  go_enter Tryd.func76, Tryd.ntmps76
  go_wp2_with fail
  refine HB.out.mono ?_
  rintro e w' ⟨rfl, rfl⟩
  go_wp2_with fail
  go_ret
  exact ⟨by go_num, rfl⟩

/-- The row while it is filled: j bytes of 255. -/
def emRow (k j : Nat) : List UInt8 := 0 :: 1 :: (List.replicate j 255 ++ List.replicate (k - 2 - j) 0)
theorem emRow_length (k j : Nat) (h : j + 2 ≤ k) : (emRow k j).length = k := by simp [emRow]; omega
theorem emRow_set (k j : Nat) (h : j + 2 < k) : (emRow k j).set (j + 2) 255 = emRow k (j + 1) := by
  unfold emRow
  rw [List.set_cons_succ, List.set_cons_succ, List.set_append, if_neg (by simp), List.length_replicate, Nat.sub_self, show k - 2 - j = (k - 2 - (j + 1)) + 1 by omega, List.replicate_succ, List.set_cons_zero, List.replicate_succ' (n := j)]
  simp
theorem emRow_start (k : Nat) (h : 2 ≤ k) : (zeroRow k).setIfInBounds 1 (.int .u8 1) = ((emRow k 0).map B).toArray := by
  obtain ⟨m, rfl⟩ : ∃ m, k = m + 2 := ⟨k - 2, by omega⟩
  simp [zeroRow, emRow, List.replicate_succ, B]
theorem emRow_end (n : Nat) (pre dig : List UInt8) : splice (splice ((emRow (n + pre.length + dig.length + 3) n).map B) (n + pre.length + 3 - pre.length) (pre.map B)) (n + pre.length + 3) (dig.map B) = (emOf n pre dig).map B := by
  have hl : ((emRow (n + pre.length + dig.length + 3) n).map B).length = n + pre.length + dig.length + 3 := by rw [List.length_map, emRow_length _ _ (by omega)]
  have h := splice_app ((emRow (n + pre.length + dig.length + 3) n).map B) (pre.map B) (n + 3) (dig.map B) (by rw [hl]; simp; omega)
  rw [List.length_map] at h
  rw [show n + pre.length + 3 - pre.length = n + 3 by omega, show n + pre.length + 3 = n + 3 + pre.length by omega, h, ← List.map_append]
  unfold splice emRow emOf
  rw [show n + pre.length + dig.length + 3 - 2 - n = (pre ++ dig).length + 1 by simp; omega]
  generalize pre ++ dig = t
  rw [List.length_map, List.replicate_succ]
  have e1 : (0 :: 1 :: (List.replicate n (255 : UInt8) ++ 0 :: List.replicate t.length 0)) = (0 :: 1 :: (List.replicate n 255 ++ [0])) ++ List.replicate t.length 0 := by simp
  have e2 : ((0 : UInt8) :: 1 :: (List.replicate n 255 ++ [0])).length = n + 3 := by simp
  rw [e1, List.map_append, List.take_left' (by rw [List.length_map]; exact e2), List.drop_append, List.drop_eq_nil_of_le (by rw [List.length_map, e2]; omega), List.length_map, e2, show n + 3 + t.length - (n + 3) = t.length by omega, List.drop_eq_nil_of_le (by simp)]
  simp

/-- What pkcs1v15ConstructEM leaves, where there is room and where there is none. -/
def ConEM (k : Nat) (pre dig : List UInt8) (er : Value) (w : World) (e : Ending) (w' : World) : Prop :=
  (k < pre.length + dig.length + 11 ∧ e = .returned (.tuple #[.slice none 0 0, er]) ∧ Kept NoBlk w w') ∨
  (pre.length + dig.length + 11 ≤ k ∧ ∃ g, e = .returned (.tuple #[.slice (some ⟨g, 0, none⟩) k k, .nilIface]) ∧ w.heap.size ≤ g ∧ Blk w' g 5 ((emOf (k - pre.length - dig.length - 3) pre dig).map B).toArray ∧ Kept NoBlk w w')

/-- Once the row is filled, the two copies. -/
theorem em_copies (g k n : Nat) (P D : Option Addr) (cp cd : Nat) (pre dig : List UInt8) (wr : World) (hk : k = n + pre.length + dig.length + 3) (hb : Blk wr g 5 ((emRow k n).map B).toArray) (hp : BytesAt wr P pre) (hd : BytesAt wr D dig)
    (hdg : ∀ a, D = some a → dig ≠ [] → a.block ≠ g) (dp dp2 : Option Addr) (h1 : 0 < pre.length → dp = some ⟨g, n + 3, none⟩) (h2 : 0 < dig.length → dp2 = some ⟨g, n + pre.length + 3, none⟩) :
    ∃ w2 w3, (Builtin.copy_ #[23, 23] 3 #[.slice dp (k - (n + 3)) (k - (n + 3)), .slice P pre.length cp]).run Tryd.prog wr = .ok (.int .i64 (pre.length : Int)) w2 ∧
      (Builtin.copy_ #[23, 23] 3 #[.slice dp2 (k - (n + pre.length + 3)) (k - (n + pre.length + 3)), .slice D dig.length cd]).run Tryd.prog w2 = .ok (.int .i64 (dig.length : Int)) w3 ∧
      Blk w3 g 5 ((emOf n pre dig).map B).toArray ∧ Kept (OneBlk g) wr w3 := by
  obtain ⟨w2, r2, b2, k2⟩ := run_copy_bytes wr 3 dp P (k - (n + 3)) (k - (n + 3)) pre.length cp g (n + 3) ((emRow k n).map B) 5 hb pre hp rfl pre.length (by omega) h1 (by rw [List.length_map, emRow_length _ _ (by omega)]; omega)
  have hd2 : BytesAt w2 D dig := by
    by_cases h0 : dig = []
    · subst h0; exact .inl rfl
    · exact hd.kept k2 (fun a e => hdg a e h0)
  have hl : (splice ((emRow k n).map B) (n + 3) ((pre.take pre.length).map B)).length = k := by
    rw [length_splice _ _ _ (by rw [List.length_map, List.length_map, List.take_length, emRow_length _ _ (by omega)]; omega), List.length_map, emRow_length _ _ (by omega)]
  obtain ⟨w3, r3, b3, k3⟩ := run_copy_bytes w2 3 dp2 D (k - (n + pre.length + 3)) (k - (n + pre.length + 3)) dig.length cd g (n + pre.length + 3) _ 5 b2 dig hd2 rfl dig.length (by omega) h2 (by rw [hl]; omega)
  refine ⟨w2, w3, r2, r3, ?_, k2.trans k3⟩
  have e := emRow_end n pre dig
  rw [← hk, show n + pre.length + 3 - pre.length = n + 3 by omega] at e
  rw [List.take_length, List.take_length, e] at b3
  exact b3

set_option maxHeartbeats 1600000 in
set_option maxRecDepth 4000 in
theorem conEM_name (i : Nat) (hi : i < 8) (pp q pn bn k : Nat) (ms mr : List Nat) (od : Bool) (mi : Nat) (rv er : Value) (D : Option Addr) (cd : Nat) (dig : List UInt8) (w : World) (hp : w.cell? ⟨pp, 0, none⟩ = some (.pointer (some ⟨q, 0, none⟩))) (hm : ModAt w q pn bn ms mr od mi rv) (hn : ms.length + mr.length ≤ 1000000) (hk : (bitLen (val ms) + 7) / 8 = k) (hg : w.cell? ⟨0, 0, none⟩ = some er) (hd : BytesAt w D dig) (hdl : dig.length ≤ 1000000) (hkl : k ≤ 1000000) (hsz0 : dig.length = hSize i) :
    Calls Tryd.prog 50 #[.pointer (some ⟨pp, 0, none⟩), .string (hName i), .slice D dig.length cd] w (ConEM k (hPfx i) dig er w) := by
  have hne : (hName i).toList.isEmpty = false ∧ (hPfx i).length ≤ 100 ∧ 1 ≤ (hPfx i).length ∧ 1 ≤ hSize i := by
    have h : i = 0 ∨ i = 1 ∨ i = 2 ∨ i = 3 ∨ i = 4 ∨ i = 5 ∨ i = 6 ∨ i = 7 := by omega
    rcases h with rfl | rfl | rfl | rfl | rfl | rfl | rfl | rfl <;> decide +kernel
  obtain ⟨hne, hpl1, hpl2, hds⟩ := hne
  have hd1 : 1 ≤ dig.length := by omega
  have HP0 := Lib.hid hp
  have HM0 := Lib.hid hm
  have HG0 := Lib.hid hg
  have HD0 := Lib.hid hd
  have HK0 := Lib.hid hk
  have HS0 := Lib.hid hsz0
  clear hp hm hg hd hsz0 hk
  go_enter Tryd.func50, Tryd.ntmps50
  go_wp2_with fail
  refine (hashPrefixes_any w).mono ?_
  rintro e w1 ⟨rfl, hst⟩
  have hl := run_lookup_hit hst i (hName i, hPfx i) (pfxTab_at i hi) (fun m y => pfxTab_first i hi m y)
  have HPA := Lib.hid (hst.bytes i _ (pfxTab_at i hi))
  have HKW := Lib.hid hst.kept
  obtain ⟨pre, hpre⟩ : ∃ pre, hPfx i = pre := ⟨_, rfl⟩
  rw [hpre] at hl HPA hpl1 hpl2
  have HPRE := Lib.hid hpre
  simp only at hl HPA
  clear hst hpre
  have hhs := hashSize_name i hi w1
  rw [← HS0.out] at hhs
  have HHS := Lib.hid hhs
  have hdd : ((dig.length : Int) != (dig.length : Int)) = false := by simp
  clear hhs
  go_wp2_with fail
  refine HHS.out.mono ?_
  rintro e w' ⟨rfl, rfl⟩
  clear HHS hl
  have hp := HP0.out
  have hm := HM0.out
  have hg := HG0.out
  have hd := HD0.out
  have hk := HK0.out
  have hpl := World.block_lt_of_cell? _ _ hp
  have hgl := World.block_lt_of_cell? _ _ hg
  have hp1 : w1.cell? ⟨pp, 0, none⟩ = some (.pointer (some ⟨q, 0, none⟩)) := ((HKW.out).cell (p := ⟨pp, 0, none⟩) hpl (fun e => e)).trans hp
  have hg1 : w1.cell? ⟨0, 0, none⟩ = some er := ((HKW.out).cell (p := ⟨0, 0, none⟩) hgl (fun e => e)).trans hg
  have hsz := pubSize_any pp q pn bn ms mr od mi rv w1 hp1 (hm.still (HKW.out)) hn
  rw [hk] at hsz
  have HSZ := Lib.hid hsz
  have HDD : Hid (BytesAt w1 D dig) := Lib.hid (hd.still (HKW.out))
  have hdb : ∀ a, D = some a → dig ≠ [] → a.block < w.heap.size := fun a e h0 => by
    subst e
    obtain ⟨b, off, e, hb, _⟩ := hd.at_ (k := 0) (by cases dig with | nil => exact absurd rfl h0 | cons x xs => simp)
    cases e; exact hb
  have HDB := Lib.hid hdb
  clear hp hm hg hd hk hdb
  by_cases hfit : k < pre.length + dig.length + 11
  · skip
    have hlt : (k : Int) < (pre.length : Int) + (dig.length : Int) + 2 + 8 + 1 := by omega
    have hfin : ∀ w', Kept NoBlk w1 w' → ConEM k pre dig er w (.returned (.tuple #[.slice none 0 0, er])) w' := fun w' h => .inl ⟨by first | omega | (simp only [List.length_nil]; omega), rfl, (HKW.out).none h⟩
    have FIN := Lib.hid hfin
    clear hfin hsz hp1
    go_wp2_with fail
    refine HSZ.out.mono ?_
    rintro e w' ⟨rfl, rfl⟩
    clear HSZ
    go_wp2_with fail
    go_quiet (fail)
    go_wp2_with fail
    go_ret2
    rw [HPRE.out]
    exact FIN.out _ ((Kept.refl _ _).drewN _)
  · skip
    have hlt : ¬ (k : Int) < (pre.length : Int) + (dig.length : Int) + 2 + 8 + 1 := by omega
    obtain ⟨n, hnn⟩ : ∃ n, k = n + pre.length + dig.length + 3 := ⟨k - pre.length - dig.length - 3, by omega⟩
    have HNN := Lib.hid hnn
    have hi1 : (k : Int) - (pre.length : Int) - (dig.length : Int) - 1 = ((n + 2 : Nat) : Int) := by omega
    have hi2 : (k : Int) - (pre.length : Int) - (dig.length : Int) = ((n + 3 : Nat) : Int) := by omega
    have hi3 : (k : Int) - (dig.length : Int) = ((n + pre.length + 3 : Nat) : Int) := by omega
    have hk1 : (1 : Int) < (k : Int) := by omega
    have hj1 : ((n + 3 : Nat) : Int) ≤ (k : Int) := by omega
    have hj2 : ((n + pre.length + 3 : Nat) : Int) ≤ (k : Int) := by omega
    have hj3 : ¬ k = n + 3 := by omega
    have hj4 : ¬ k = n + pre.length + 3 := by omega
    have hn1 : n ≤ 1000000 := by omega
    have hmk := fun w' => make_bytes w' k (by omega)
    have hz1 : Blk (w1.alloc (.cells ((zeroRow k).setIfInBounds 1 (.int .u8 1)) 5)) w1.heap.size 5 ((emRow k 0).map B).toArray := by
      rw [← emRow_start k (by omega)]; exact Blk.new _ _ _
    have hz := Blk.new w1 5 (zeroRow k)
    have hze : (w1.alloc (.cells (zeroRow k) 5)).cell? ⟨w1.heap.size, 1, none⟩ = some (.int .u8 0) := hz.cellIs (by
      unfold zeroRow
      rw [List.getElem?_toArray, List.getElem?_map, List.getElem?_replicate, if_pos (by omega)]; rfl)
    have hzf := hz.frozen 1
    have HZ1 := Lib.hid hz1
    have hn2 : n + 2 ≤ k := by omega
    clear hnn hz hz1 hsz hp1 hg1 hfit
    go_wp2_with fail
    refine HSZ.out.mono ?_
    rintro e w' ⟨rfl, rfl⟩
    clear HSZ
    go_wp2_with fail
    clear hze hzf
    go_loopw [12] (fun iv wr => ∃ j : Nat, j ≤ n ∧ iv = .int .i64 ((j + 2 : Nat) : Int) ∧ Blk wr w1.heap.size 5 ((emRow k j).map B).toArray ∧ Kept NoBlk w1 wr) (fun iv _ => n + 2 - (intOf iv).toNat)
    case atStart => exact ⟨0, Nat.zero_le _, rfl, HZ1.out, (Kept.refl NoBlk w1).alloc _⟩
    case round =>
      obtain ⟨j, hj, rfl, hb, hkept⟩ := hrel
      clear HZ1
      by_cases hlt2 : j < n
      · have hl : j + 2 < (emRow k j).length := by rw [emRow_length _ _ (by omega)]; omega
        have hcell : wr.cell? ⟨w1.heap.size, j + 2, none⟩ = some (B (emRow k j)[j + 2]) := hb.cellIs (by
          rw [List.getElem?_toArray, List.getElem?_map, List.getElem?_eq_getElem hl]; rfl)
        obtain ⟨z, hz⟩ : ∃ z, B (emRow k j)[j + 2] = z := ⟨_, rfl⟩
        rw [hz] at hcell
        have hf := hb.frozen (j + 2)
        have h255 := hb.set_ (j + 2) (B 255)
        rw [List.setIfInBounds_toArray, ← List.map_set, emRow_set k j (by omega)] at h255
        have HB := Lib.hid h255
        have HK := Lib.hid hkept
        have hlk : ((j + 2 : Nat) : Int) < (k : Int) := by omega
        have hln : ((j + 2 : Nat) : Int) < ((n + 2 : Nat) : Int) := by omega
        clear hb hkept hz hl h255
        go_wp2_with fail
        go_roundw
        case rel => exact ⟨j + 1, by omega, by first | rfl | go_num | (congr 1; omega), HB.out, HK.out.setNew (Nat.le_refl _) _ _⟩
        case measure => first | (simp [intOf]; done) | (simp [intOf]; omega)
      · obtain rfl : j = n := by omega
        have hdn : ∀ a, D = some a → dig ≠ [] → a.block ≠ w1.heap.size := fun a e h0 => by have := HDB.out a e h0; have := (HKW.out).size; omega
        obtain ⟨w2, w3, r2, r3, b3, k3⟩ := em_copies w1.heap.size k j _ D pre.length cd pre dig wr (by have := HNN.out; first | omega | (simp only [List.length_nil]; omega)) hb ((HPA.out).still hkept) (HDD.out.still hkept) hdn (some ⟨w1.heap.size, j + 3, none⟩) (some ⟨w1.heap.size, j + pre.length + 3, none⟩) (fun h => by first | rfl | (simp at h; done) | (simp at h; omega)) (fun h => by first | rfl | (exfalso; omega) | (simp at h; done))
        have hk3 : Kept NoBlk w w3 := ((HKW.out).none hkept).fresh k3 ((HKW.out).size)
        have hfin : ConEM k pre dig er w (.returned (.tuple #[.slice (some ⟨w1.heap.size, 0, none⟩) k k, .nilIface])) w3 := .inr ⟨by have := HNN.out; first | omega | (simp only [List.length_nil]; omega), w1.heap.size, rfl, (HKW.out).size, by rw [show k - (pre).length - (dig).length - 3 = j by have := HNN.out; first | omega | (simp only [List.length_nil]; omega)]; exact b3, hk3⟩
        have FIN := Lib.hid hfin
        have hlt3 : ¬ ((j + 2 : Nat) : Int) < ((j + 2 : Nat) : Int) := by omega
        clear hb hkept b3 k3 hk3 hfin
        try simp only [List.length_nil, Nat.add_zero] at r2 r3
        go_wp2_with fail
        go_ret2
        rw [HPRE.out]
        exact FIN.out

end Go.Proofs.YtmheoenieaemmaaDoor
