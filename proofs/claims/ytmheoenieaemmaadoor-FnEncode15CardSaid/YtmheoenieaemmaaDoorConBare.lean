/-
  rsa.pkcs1v15ConstructEM without a name.
-/
import Derived.Test.YtmheoenieaemmaaDoorConEM
namespace Go.Proofs.YtmheoenieaemmaaDoor
open Go.RowKit

set_option maxHeartbeats 1600000 in
set_option maxRecDepth 4000 in
theorem conEM_bare (pp q pn bn k : Nat) (ms mr : List Nat) (od : Bool) (mi : Nat) (rv er : Value) (D : Option Addr) (cd : Nat) (dig : List UInt8) (w : World) (hp : w.cell? ⟨pp, 0, none⟩ = some (.pointer (some ⟨q, 0, none⟩))) (hm : ModAt w q pn bn ms mr od mi rv) (hn : ms.length + mr.length ≤ 1000000) (hk : (bitLen (val ms) + 7) / 8 = k) (hg : w.cell? ⟨0, 0, none⟩ = some er) (hd : BytesAt w D dig) (hdl : dig.length ≤ 1000000) (hkl : k ≤ 1000000) :
    Calls Tryd.prog 50 #[.pointer (some ⟨pp, 0, none⟩), .string ⟨#[]⟩, .slice D dig.length cd] w (ConEM k [] dig er w) := by
  have HP0 := Lib.hid hp
  have HM0 := Lib.hid hm
  have HG0 := Lib.hid hg
  have HD0 := Lib.hid hd
  have HK0 := Lib.hid hk
  clear hp hm hg hd hk
  have HKW : Hid (Kept NoBlk w w) := Lib.hid (Kept.refl _ w)
  have hp := HP0.out
  have hm := HM0.out
  have hg := HG0.out
  have hd := HD0.out
  have hk := HK0.out
  have hpl := World.block_lt_of_cell? _ _ hp
  have hgl := World.block_lt_of_cell? _ _ hg
  have hp1 : w.cell? ⟨pp, 0, none⟩ = some (.pointer (some ⟨q, 0, none⟩)) := ((HKW.out).cell (p := ⟨pp, 0, none⟩) hpl (fun e => e)).trans hp
  have hg1 : w.cell? ⟨0, 0, none⟩ = some er := ((HKW.out).cell (p := ⟨0, 0, none⟩) hgl (fun e => e)).trans hg
  have hsz := pubSize_any pp q pn bn ms mr od mi rv w hp1 (hm.still (HKW.out)) hn
  rw [hk] at hsz
  have HSZ := Lib.hid hsz
  have HDD : Hid (BytesAt w D dig) := Lib.hid (hd.still (HKW.out))
  have hdb : ∀ a, D = some a → dig ≠ [] → a.block < w.heap.size := fun a e h0 => by
    subst e
    obtain ⟨b, off, e, hb, _⟩ := hd.at_ (k := 0) (by cases dig with | nil => exact absurd rfl h0 | cons x xs => simp)
    cases e; exact hb
  have HDB := Lib.hid hdb
  clear hp hm hg hd hk hdb
  by_cases hfit : k < dig.length + 11
  · go_enter Tryd.func50, Tryd.ntmps50
    have hlt : (k : Int) < (dig.length : Int) + 2 + 8 + 1 := by omega
    have hfin : ∀ w', Kept NoBlk w w' → ConEM k [] dig er w (.returned (.tuple #[.slice none 0 0, er])) w' := fun w' h => .inl ⟨by first | omega | (simp only [List.length_nil]; omega), rfl, (HKW.out).none h⟩
    have FIN := Lib.hid hfin
    clear hfin hsz hp1
    go_wp2_with fail
    refine HSZ.out.mono ?_
    rintro e w' ⟨rfl, rfl⟩
    clear HSZ
    go_wp2_with fail
    go_quiet (fail)
    go_wp2_with fail
    go_ret2
    exact FIN.out _ ((Kept.refl _ _).drewN _)
  by_cases hd0 : dig.length = 0
  · obtain rfl : dig = [] := List.eq_nil_of_length_eq_zero hd0
    simp only [List.length_nil] at hfit hsz ⊢
    clear hd0
    go_enter Tryd.func50, Tryd.ntmps50
    have hlt : ¬ (k : Int) < (0 : Int) + 2 + 8 + 1 := by omega
    obtain ⟨n, hnn⟩ : ∃ n, k = n + 0 + 0 + 3 := ⟨k - 0 - 0 - 3, by omega⟩
    have HNN := Lib.hid hnn
    have hi1 : (k : Int) - (0 : Int) - 1 = ((n + 2 : Nat) : Int) := by omega
    have hi2 : (k : Int) - (0 : Int) = ((n + 3 : Nat) : Int) := by omega
    have hi3 : (k : Int) - (0 : Int) = ((n + 3 : Nat) : Int) := by omega
    have hk1 : (1 : Int) < (k : Int) := by omega
    have hj1 : ((n + 3 : Nat) : Int) ≤ (k : Int) := by omega
    have hj2 : ((n + 3 : Nat) : Int) ≤ (k : Int) := by omega
    have hn1 : n ≤ 1000000 := by omega
    have hmk := fun w' => make_bytes w' k (by omega)
    have hz1 : Blk (w.alloc (.cells ((zeroRow k).setIfInBounds 1 (.int .u8 1)) 5)) w.heap.size 5 ((emRow k 0).map B).toArray := by
      rw [← emRow_start k (by omega)]; exact Blk.new _ _ _
    have hz := Blk.new w 5 (zeroRow k)
    have hze : (w.alloc (.cells (zeroRow k) 5)).cell? ⟨w.heap.size, 1, none⟩ = some (.int .u8 0) := hz.cellIs (by
      unfold zeroRow
      rw [List.getElem?_toArray, List.getElem?_map, List.getElem?_replicate, if_pos (by omega)]; rfl)
    have hzf := hz.frozen 1
    have HZ1 := Lib.hid hz1
    have hn2 : n + 2 ≤ k := by omega
    clear hnn hz hz1 hsz hp1 hg1 hfit
    go_wp2_with fail
    refine HSZ.out.mono ?_
    rintro e w' ⟨rfl, rfl⟩
    clear HSZ
    go_wp2_with fail
    clear hze hzf
    go_loopw [12] (fun iv wr => ∃ j : Nat, j ≤ n ∧ iv = .int .i64 ((j + 2 : Nat) : Int) ∧ Blk wr w.heap.size 5 ((emRow k j).map B).toArray ∧ Kept NoBlk w wr) (fun iv _ => n + 2 - (intOf iv).toNat)
    case atStart => exact ⟨0, Nat.zero_le _, rfl, HZ1.out, (Kept.refl NoBlk w).alloc _⟩
    case round =>
      obtain ⟨j, hj, rfl, hb, hkept⟩ := hrel
      clear HZ1
      by_cases hlt2 : j < n
      · have hl : j + 2 < (emRow k j).length := by rw [emRow_length _ _ (by omega)]; omega
        have hcell : wr.cell? ⟨w.heap.size, j + 2, none⟩ = some (B (emRow k j)[j + 2]) := hb.cellIs (by
          rw [List.getElem?_toArray, List.getElem?_map, List.getElem?_eq_getElem hl]; rfl)
        obtain ⟨z, hz⟩ : ∃ z, B (emRow k j)[j + 2] = z := ⟨_, rfl⟩
        rw [hz] at hcell
        have hf := hb.frozen (j + 2)
        have h255 := hb.set_ (j + 2) (B 255)
        rw [List.setIfInBounds_toArray, ← List.map_set, emRow_set k j (by omega)] at h255
        have HB := Lib.hid h255
        have HK := Lib.hid hkept
        have hlk : ((j + 2 : Nat) : Int) < (k : Int) := by omega
        have hln : ((j + 2 : Nat) : Int) < ((n + 2 : Nat) : Int) := by omega
        clear hb hkept hz hl h255
        go_wp2_with fail
        go_roundw
        case rel => exact ⟨j + 1, by omega, by first | rfl | go_num | (congr 1; omega), HB.out, HK.out.setNew (Nat.le_refl _) _ _⟩
        case measure => first | (simp [intOf]; done) | (simp [intOf]; omega)
      · obtain rfl : j = n := by omega
        have hdn : ∀ a, D = some a → ([] : List UInt8) ≠ [] → a.block ≠ w.heap.size := fun a e h0 => by have := HDB.out a e h0; have := (HKW.out).size; omega
        obtain ⟨w2, w3, r2, r3, b3, k3⟩ := em_copies w.heap.size k j none D 0 cd ([] : List UInt8) [] wr (by have := HNN.out; first | omega | (simp only [List.length_nil]; omega)) hb ((BytesAt.nil _ _).still hkept) (HDD.out.still hkept) hdn (some ⟨w.heap.size, 0, none⟩) (some ⟨w.heap.size, 0, none⟩) (fun h => by first | rfl | (simp at h; done) | (simp at h; omega)) (fun h => by first | rfl | (exfalso; omega) | (simp at h; done))
        have hk3 : Kept NoBlk w w3 := ((HKW.out).none hkept).fresh k3 ((HKW.out).size)
        have hfin : ConEM k ([] : List UInt8) [] er w (.returned (.tuple #[.slice (some ⟨w.heap.size, 0, none⟩) k k, .nilIface])) w3 := .inr ⟨by have := HNN.out; first | omega | (simp only [List.length_nil]; omega), w.heap.size, rfl, (HKW.out).size, by rw [show k - (([] : List UInt8)).length - ([] : List UInt8).length - 3 = j by have := HNN.out; first | omega | (simp only [List.length_nil]; omega)]; exact b3, hk3⟩
        have FIN := Lib.hid hfin
        have hlt3 : ¬ ((j + 2 : Nat) : Int) < ((j + 2 : Nat) : Int) := by omega
        clear hb hkept b3 k3 hk3 hfin
        try simp only [List.length_nil, Nat.add_zero] at r2 r3
        go_wp2_with fail
        go_ret2
        exact FIN.out
  · have hd1 : 1 ≤ dig.length := by omega
    clear hd0
    go_enter Tryd.func50, Tryd.ntmps50
    have hlt : ¬ (k : Int) < (dig.length : Int) + 2 + 8 + 1 := by omega
    obtain ⟨n, hnn⟩ : ∃ n, k = n + 0 + dig.length + 3 := ⟨k - 0 - dig.length - 3, by omega⟩
    have HNN := Lib.hid hnn
    have hi1 : (k : Int) - (dig.length : Int) - 1 = ((n + 2 : Nat) : Int) := by omega
    have hi2 : (k : Int) - (dig.length : Int) = ((n + 3 : Nat) : Int) := by omega
    have hi3 : (k : Int) - (dig.length : Int) = ((n + 3 : Nat) : Int) := by omega
    have hk1 : (1 : Int) < (k : Int) := by omega
    have hj1 : ((n + 3 : Nat) : Int) ≤ (k : Int) := by omega
    have hj2 : ((n + 3 : Nat) : Int) ≤ (k : Int) := by omega
    have hj3 : ¬ k = n + 3 := by omega
    have hj4 : ¬ k = n + 3 := by omega
    have hn1 : n ≤ 1000000 := by omega
    have hmk := fun w' => make_bytes w' k (by omega)
    have hz1 : Blk (w.alloc (.cells ((zeroRow k).setIfInBounds 1 (.int .u8 1)) 5)) w.heap.size 5 ((emRow k 0).map B).toArray := by
      rw [← emRow_start k (by omega)]; exact Blk.new _ _ _
    have hz := Blk.new w 5 (zeroRow k)
    have hze : (w.alloc (.cells (zeroRow k) 5)).cell? ⟨w.heap.size, 1, none⟩ = some (.int .u8 0) := hz.cellIs (by
      unfold zeroRow
      rw [List.getElem?_toArray, List.getElem?_map, List.getElem?_replicate, if_pos (by omega)]; rfl)
    have hzf := hz.frozen 1
    have HZ1 := Lib.hid hz1
    have hn2 : n + 2 ≤ k := by omega
    clear hnn hz hz1 hsz hp1 hg1 hfit
    go_wp2_with fail
    refine HSZ.out.mono ?_
    rintro e w' ⟨rfl, rfl⟩
    clear HSZ
    go_wp2_with fail
    clear hze hzf
    go_loopw [12] (fun iv wr => ∃ j : Nat, j ≤ n ∧ iv = .int .i64 ((j + 2 : Nat) : Int) ∧ Blk wr w.heap.size 5 ((emRow k j).map B).toArray ∧ Kept NoBlk w wr) (fun iv _ => n + 2 - (intOf iv).toNat)
    case atStart => exact ⟨0, Nat.zero_le _, rfl, HZ1.out, (Kept.refl NoBlk w).alloc _⟩
    case round =>
      obtain ⟨j, hj, rfl, hb, hkept⟩ := hrel
      clear HZ1
      by_cases hlt2 : j < n
      · have hl : j + 2 < (emRow k j).length := by rw [emRow_length _ _ (by omega)]; omega
        have hcell : wr.cell? ⟨w.heap.size, j + 2, none⟩ = some (B (emRow k j)[j + 2]) := hb.cellIs (by
          rw [List.getElem?_toArray, List.getElem?_map, List.getElem?_eq_getElem hl]; rfl)
        obtain ⟨z, hz⟩ : ∃ z, B (emRow k j)[j + 2] = z := ⟨_, rfl⟩
        rw [hz] at hcell
        have hf := hb.frozen (j + 2)
        have h255 := hb.set_ (j + 2) (B 255)
        rw [List.setIfInBounds_toArray, ← List.map_set, emRow_set k j (by omega)] at h255
        have HB := Lib.hid h255
        have HK := Lib.hid hkept
        have hlk : ((j + 2 : Nat) : Int) < (k : Int) := by omega
        have hln : ((j + 2 : Nat) : Int) < ((n + 2 : Nat) : Int) := by omega
        clear hb hkept hz hl h255
        go_wp2_with fail
        go_roundw
        case rel => exact ⟨j + 1, by omega, by first | rfl | go_num | (congr 1; omega), HB.out, HK.out.setNew (Nat.le_refl _) _ _⟩
        case measure => first | (simp [intOf]; done) | (simp [intOf]; omega)
      · obtain rfl : j = n := by omega
        have hdn : ∀ a, D = some a → dig ≠ [] → a.block ≠ w.heap.size := fun a e h0 => by have := HDB.out a e h0; have := (HKW.out).size; omega
        obtain ⟨w2, w3, r2, r3, b3, k3⟩ := em_copies w.heap.size k j none D 0 cd ([] : List UInt8) dig wr (by have := HNN.out; first | omega | (simp only [List.length_nil]; omega)) hb ((BytesAt.nil _ _).still hkept) (HDD.out.still hkept) hdn (some ⟨w.heap.size, j + 3, none⟩) (some ⟨w.heap.size, j + 3, none⟩) (fun h => by first | rfl | (simp at h; done) | (simp at h; omega)) (fun h => by first | rfl | (exfalso; omega) | (simp at h; done))
        have hk3 : Kept NoBlk w w3 := ((HKW.out).none hkept).fresh k3 ((HKW.out).size)
        have hfin : ConEM k ([] : List UInt8) dig er w (.returned (.tuple #[.slice (some ⟨w.heap.size, 0, none⟩) k k, .nilIface])) w3 := .inr ⟨by have := HNN.out; first | omega | (simp only [List.length_nil]; omega), w.heap.size, rfl, (HKW.out).size, by rw [show k - (([] : List UInt8)).length - (dig).length - 3 = j by have := HNN.out; first | omega | (simp only [List.length_nil]; omega)]; exact b3, hk3⟩
        have FIN := Lib.hid hfin
        have hlt3 : ¬ ((j + 2 : Nat) : Int) < ((j + 2 : Nat) : Int) := by omega
        clear hb hkept b3 k3 hk3 hfin
        try simp only [List.length_nil, Nat.add_zero] at r2 r3
        go_wp2_with fail
        go_ret2
        exact FIN.out

end Go.Proofs.YtmheoenieaemmaaDoor
