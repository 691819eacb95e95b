/-
  spec.Encode15.
  rsa.PublicKey.Size, rsa.pkcs1v15ConstructEM.
  rsa.pkcs1v15ConstructEM without a name.
  rsa.ErrMessageTooLong in its variable.
  laws.modulus.
  rsa.ZZConstructEM, impl.Encode15.
  rsa.pkcs1v15ConstructEM, ZZConstructEM, impl.Encode15 where the hash is not of its size.
-/
import Derived.Test.YtdmpiecdpdknaaaGreatDoorGm
import Derived.Test.YtdmpiecdpdknaaaGreatDoorGk
import Derived.Test.YtdmpiecdpdknaaaGreatDoorGe
import Derived.Test.YtdmpiecdpdknaaaGreatDoorNewMod
import Derived.BigQuiet
import Derived.Deep.QuietTactic
import Derived.Test.YtdmpiecdpdknaaaGreatDoorProg
import Derived.Test.YtdmpiecdpdknaaaGreatDoorGj
namespace Go.Proofs.YtdmpiecdpdknaaaGreatDoor
open Go.RowKit

/-- 0, 1, n bytes of 255, 0, the prefix, the hash. -/
def emOf (n : Nat) (pre dig : List UInt8) : List UInt8 := 0 :: 1 :: (List.replicate n 255 ++ 0 :: (pre ++ dig))
theorem emOf_length (n : Nat) (pre dig : List UInt8) : (emOf n pre dig).length = n + pre.length + dig.length + 3 := by simp [emOf]; omega

/-- What spec.Encode15 leaves. -/
def SpecEnc (k : Nat) (pre dig : List UInt8) (w : World) (e : Ending) (w' : World) : Prop :=
  (k < pre.length + dig.length + 11 ∧ e = .returned (.tuple #[.slice none 0 0, .bool false]) ∧ Kept NoBlk w w') ∨
  (pre.length + dig.length + 11 ≤ k ∧ ∃ A c, e = .returned (.tuple #[.slice A (emOf (k - pre.length - dig.length - 3) pre dig).length c, .bool true]) ∧ BytesAt w' A (emOf (k - pre.length - dig.length - 3) pre dig) ∧ Kept NoBlk w w')

set_option maxHeartbeats 800000 in
theorem specEnc_any (k : Nat) (A A' : Option Addr) (c c' : Nat) (pre dig : List UInt8) (w : World) (hp : BytesAt w A pre) (hd : BytesAt w A' dig) (hk : k ≤ 1000000) (hpl : pre.length ≤ 1000000) (hdl : dig.length ≤ 1000000) :
    Calls Tryz.prog 9 #[.int .i64 k, .slice A pre.length c, .slice A' dig.length c'] w (SpecEnc k pre dig w) := by
  have HP := Lib.hid hp
  have HD := Lib.hid hd
  clear hp hd
  by_cases h : k < pre.length + dig.length + 11
  · have hlt : (k : Int) - (pre.length : Int) - (dig.length : Int) - 3 < 8 := by omega
    go_enter Tryz.func9, Tryz.ntmps9
    go_wp2_with fail
    go_ret2
    exact .inl ⟨h, rfl, Kept.refl _ _⟩
  · obtain ⟨n, hn⟩ : ∃ n, k - pre.length - dig.length - 3 = n := ⟨_, rfl⟩
    have hnk : k = n + pre.length + dig.length + 3 := by omega
    have hi : (k : Int) - (pre.length : Int) - (dig.length : Int) - 3 = (n : Int) := by omega
    have hlt : ¬ (n : Int) < 8 := by omega
    have hn1 : n ≤ 1000000 := by omega
    have HN := Lib.hid hn
    have HH := Lib.hid h
    have hown := own_lit w [0, 1] (by decide)
    clear hn h hnk
    go_enter Tryz.func9, Tryz.ntmps9
    go_wp2_with fail
    go_loopw [9, 22] (fun v i wr => ∃ j : Nat, j ≤ n ∧ i = .int .i64 j ∧ wr.ownsRow w.heap.size 5 1 v (0 :: 1 :: List.replicate j (255 : UInt8)).length ((0 :: 1 :: List.replicate j (255 : UInt8)).map B) ∧ Kept NoBlk w wr) (fun _ i _ => n - (intOf i).toNat)
    case atStart => exact ⟨0, Nat.zero_le _, rfl, hown, (Kept.refl _ w).alloc _⟩
    case round =>
      obtain ⟨j, hj, rfl, ho, hkept⟩ := hrel
      have HK := Lib.hid hkept
      have HO := Lib.hid ho
      clear hkept hown
      by_cases hlt : j < n
      · have hs : ([(0 : UInt8), 1] ++ List.replicate j 255) ++ [255] = 0 :: 1 :: List.replicate (j + 1) (255 : UInt8) := by rw [List.replicate_succ']; simp
        have HS := Lib.hid hs
        clear hs ho
        go_wp2_with (at_builtin; refine wpList_append_bytes _ rfl _ _ rfl w.heap.size _ ([(0 : UInt8), 1] ++ List.replicate j 255) rfl (own_still HO.out ((Kept.refl NoBlk _).alloc _)) _ 1 _ [255] rfl rfl (bytesAt_new _ 5 [255] _ (by simp)) (by simp; omega) (by have := HK.out.size; simp; omega) ?_; intro v' w1 hown1 hgrow)
        go_roundw
        case rel => exact ⟨j + 1, by omega, by go_num, by rw [HS.out] at hown1; exact hown1, (HK.out.alloc _).grow (own_still HO.out ((Kept.refl NoBlk _).alloc _)) (Nat.le_refl _) hgrow⟩
        case measure => simp [intOf]; omega
      · obtain rfl : j = n := by omega
        obtain ⟨A1, c1, rfl, _, _, hat1, _⟩ := own_form ho
        have HAT := Lib.hid hat1
        have hl2 : (0 :: 1 :: List.replicate j (255 : UInt8)).length = j + 2 := by simp
        rw [hl2]
        clear ho hat1
        have hj := joined_any (wr.heap.size + 1) [(A1, c1, 0 :: 1 :: List.replicate j (255 : UInt8)), (some ⟨wr.heap.size, 0, none⟩, 1, [0]), (A, c, pre), (A', c', dig)]
          ((wr.alloc (.cells #[.int .u8 0] 5)).alloc (.cells #[.slice A1 (j + 2) c1, .slice (some ⟨wr.heap.size, 0, none⟩) 1 1, .slice A pre.length c, .slice A' dig.length c'] 22))
          (by
            have := at_new' (wr.alloc (.cells #[.int .u8 0] 5)) 22 ([(A1, c1, 0 :: 1 :: List.replicate j (255 : UInt8)), (some ⟨wr.heap.size, 0, none⟩, 1, [0]), (A, c, pre), (A', c', dig)].map BPiece.val) (wr.heap.size + 1) (by simp)
            simpa [BPiece.val] using this)
          (by simp)
          (by
            intro p hp
            simp only [List.mem_cons, List.not_mem_nil, or_false] at hp
            rcases hp with rfl | rfl | rfl | rfl
            · exact (BytesAt.alloc (show BytesAt wr A1 _ from HAT.out) _).alloc _
            · exact (bytesAt_new wr 5 [0] _ rfl).alloc _
            · exact ((HP.out.still HK.out).alloc _).alloc _
            · exact ((HD.out.still HK.out).alloc _).alloc _)
          (by simp [joinOf]; omega)
        have hjo : joinOf [(A1, c1, 0 :: 1 :: List.replicate j (255 : UInt8)), (some ⟨wr.heap.size, 0, none⟩, 1, [0]), (A, c, pre), (A', c', dig)] = emOf (k - pre.length - dig.length - 3) pre dig := by
          rw [HN.out]; simp [joinOf, emOf]
        rw [hjo] at hj
        have HJ := Lib.hid hj
        clear hj hjo
        go_wp2_with fail
        refine HJ.out.mono ?_
        rintro e w3 ⟨v, rfl, hown3, hk3⟩
        obtain ⟨A3, c3, rfl, _, _, hat3, _⟩ := own_form hown3
        have HK3 := Lib.hid hk3
        have HA3 := Lib.hid hat3
        clear hown3 hk3 hat3 HJ
        go_wp2_with fail
        go_ret2
        exact .inr ⟨by have := HH.out; omega, A3, c3, rfl, HA3.out, ((HK.out.alloc _).alloc _).none HK3.out⟩

end Go.Proofs.YtdmpiecdpdknaaaGreatDoor
namespace Go.Proofs.YtdmpiecdpdknaaaGreatDoor
open Go.RowKit

theorem pubSize_any (pp q pn bn : Nat) (ms mr : List Nat) (od : Bool) (mi : Nat) (rv : Value) (w : World) (hp : w.cell? ⟨pp, 0, none⟩ = some (.pointer (some ⟨q, 0, none⟩))) (hm : ModAt w q pn bn ms mr od mi rv) (hn : ms.length + mr.length ≤ 1000000) :
    Calls Tryz.prog 49 #[.pointer (some ⟨pp, 0, none⟩)] w fun e w' => e = .returned (.int .i64 (((bitLen (val ms) + 7) / 8 : Nat) : Int)) ∧ w = w' := by
  have HB := Lib.hid (modBitLen_any q pn bn ms mr od mi rv w hm hn)
  have hb := bitLen_val_le ms hm.2.2.2.1
  obtain ⟨l, hl⟩ : ∃ l, bitLen (val ms) = l := ⟨_, rfl⟩
  rw [hl] at HB hb ⊢
  have hd : ((l : Int) + 7).tdiv 8 = (((l + 7) / 8 : Nat) : Int) := by rw [Int.tdiv_eq_ediv_of_nonneg (by omega)]; omega
  clear hm hl
  go_enter Tryz.func49, Tryz.ntmps49
  go_wp2_with fail
  refine HB.out.mono ?_
  rintro e w' ⟨rfl, rfl⟩
  go_wp2_with fail
  go_ret
  exact ⟨by go_num, rfl⟩

/-- The row while it is filled: j bytes of 255. -/
def emRow (k j : Nat) : List UInt8 := 0 :: 1 :: (List.replicate j 255 ++ List.replicate (k - 2 - j) 0)
theorem emRow_length (k j : Nat) (h : j + 2 ≤ k) : (emRow k j).length = k := by simp [emRow]; omega
theorem emRow_set (k j : Nat) (h : j + 2 < k) : (emRow k j).set (j + 2) 255 = emRow k (j + 1) := by
  unfold emRow
  rw [List.set_cons_succ, List.set_cons_succ, List.set_append, if_neg (by simp), List.length_replicate, Nat.sub_self, show k - 2 - j = (k - 2 - (j + 1)) + 1 by omega, List.replicate_succ, List.set_cons_zero, List.replicate_succ' (n := j)]
  simp
theorem emRow_start (k : Nat) (h : 2 ≤ k) : (zeroRow k).setIfInBounds 1 (.int .u8 1) = ((emRow k 0).map B).toArray := by
  obtain ⟨m, rfl⟩ : ∃ m, k = m + 2 := ⟨k - 2, by omega⟩
  simp [zeroRow, emRow, List.replicate_succ, B]
theorem emRow_end (n : Nat) (pre dig : List UInt8) : splice (splice ((emRow (n + pre.length + dig.length + 3) n).map B) (n + pre.length + 3 - pre.length) (pre.map B)) (n + pre.length + 3) (dig.map B) = (emOf n pre dig).map B := by
  have hl : ((emRow (n + pre.length + dig.length + 3) n).map B).length = n + pre.length + dig.length + 3 := by rw [List.length_map, emRow_length _ _ (by omega)]
  have h := splice_app ((emRow (n + pre.length + dig.length + 3) n).map B) (pre.map B) (n + 3) (dig.map B) (by rw [hl]; simp; omega)
  rw [List.length_map] at h
  rw [show n + pre.length + 3 - pre.length = n + 3 by omega, show n + pre.length + 3 = n + 3 + pre.length by omega, h, ← List.map_append]
  unfold splice emRow emOf
  rw [show n + pre.length + dig.length + 3 - 2 - n = (pre ++ dig).length + 1 by simp; omega]
  generalize pre ++ dig = t
  rw [List.length_map, List.replicate_succ]
  have e1 : (0 :: 1 :: (List.replicate n (255 : UInt8) ++ 0 :: List.replicate t.length 0)) = (0 :: 1 :: (List.replicate n 255 ++ [0])) ++ List.replicate t.length 0 := by simp
  have e2 : ((0 : UInt8) :: 1 :: (List.replicate n 255 ++ [0])).length = n + 3 := by simp
  rw [e1, List.map_append, List.take_left' (by rw [List.length_map]; exact e2), List.drop_append, List.drop_eq_nil_of_le (by rw [List.length_map, e2]; omega), List.length_map, e2, show n + 3 + t.length - (n + 3) = t.length by omega, List.drop_eq_nil_of_le (by simp)]
  simp

/-- What pkcs1v15ConstructEM leaves, where there is room and where there is none. -/
def ConEM (k : Nat) (pre dig : List UInt8) (er : Value) (w : World) (e : Ending) (w' : World) : Prop :=
  (k < pre.length + dig.length + 11 ∧ e = .returned (.tuple #[.slice none 0 0, er]) ∧ Kept NoBlk w w') ∨
  (pre.length + dig.length + 11 ≤ k ∧ ∃ g, e = .returned (.tuple #[.slice (some ⟨g, 0, none⟩) k k, .nilIface]) ∧ w.heap.size ≤ g ∧ Blk w' g 5 ((emOf (k - pre.length - dig.length - 3) pre dig).map B).toArray ∧ Kept NoBlk w w')

/-- Once the row is filled, the two copies. -/
theorem em_copies (g k n : Nat) (P D : Option Addr) (cp cd : Nat) (pre dig : List UInt8) (wr : World) (hk : k = n + pre.length + dig.length + 3) (hb : Blk wr g 5 ((emRow k n).map B).toArray) (hp : BytesAt wr P pre) (hd : BytesAt wr D dig)
    (hdg : ∀ a, D = some a → dig ≠ [] → a.block ≠ g) (dp dp2 : Option Addr) (h1 : 0 < pre.length → dp = some ⟨g, n + 3, none⟩) (h2 : 0 < dig.length → dp2 = some ⟨g, n + pre.length + 3, none⟩) :
    ∃ w2 w3, (Builtin.copy_ #[22, 22] 3 #[.slice dp (k - (n + 3)) (k - (n + 3)), .slice P pre.length cp]).run Tryz.prog wr = .ok (.int .i64 (pre.length : Int)) w2 ∧
      (Builtin.copy_ #[22, 22] 3 #[.slice dp2 (k - (n + pre.length + 3)) (k - (n + pre.length + 3)), .slice D dig.length cd]).run Tryz.prog w2 = .ok (.int .i64 (dig.length : Int)) w3 ∧
      Blk w3 g 5 ((emOf n pre dig).map B).toArray ∧ Kept (OneBlk g) wr w3 := by
  obtain ⟨w2, r2, b2, k2⟩ := run_copy_bytes wr 3 dp P (k - (n + 3)) (k - (n + 3)) pre.length cp g (n + 3) ((emRow k n).map B) 5 hb pre hp rfl pre.length (by omega) h1 (by rw [List.length_map, emRow_length _ _ (by omega)]; omega)
  have hd2 : BytesAt w2 D dig := by
    by_cases h0 : dig = []
    · subst h0; exact .inl rfl
    · exact hd.kept k2 (fun a e => hdg a e h0)
  have hl : (splice ((emRow k n).map B) (n + 3) ((pre.take pre.length).map B)).length = k := by
    rw [length_splice _ _ _ (by rw [List.length_map, List.length_map, List.take_length, emRow_length _ _ (by omega)]; omega), List.length_map, emRow_length _ _ (by omega)]
  obtain ⟨w3, r3, b3, k3⟩ := run_copy_bytes w2 3 dp2 D (k - (n + pre.length + 3)) (k - (n + pre.length + 3)) dig.length cd g (n + pre.length + 3) _ 5 b2 dig hd2 rfl dig.length (by omega) h2 (by rw [hl]; omega)
  refine ⟨w2, w3, r2, r3, ?_, k2.trans k3⟩
  have e := emRow_end n pre dig
  rw [← hk, show n + pre.length + 3 - pre.length = n + 3 by omega] at e
  rw [List.take_length, List.take_length, e] at b3
  exact b3

set_option maxHeartbeats 1600000 in
set_option maxRecDepth 4000 in
theorem conEM_name (i : Nat) (hi : i < 8) (pp q pn bn k : Nat) (ms mr : List Nat) (od : Bool) (mi : Nat) (rv er : Value) (D : Option Addr) (cd : Nat) (dig : List UInt8) (w : World) (hp : w.cell? ⟨pp, 0, none⟩ = some (.pointer (some ⟨q, 0, none⟩))) (hm : ModAt w q pn bn ms mr od mi rv) (hn : ms.length + mr.length ≤ 1000000) (hk : (bitLen (val ms) + 7) / 8 = k) (hg : w.cell? ⟨1, 0, none⟩ = some er) (hd : BytesAt w D dig) (hdl : dig.length ≤ 1000000) (hkl : k ≤ 1000000) (hsz0 : dig.length = hSize i) :
    Calls Tryz.prog 44 #[.pointer (some ⟨pp, 0, none⟩), .string (hName i), .slice D dig.length cd] w (ConEM k (hPfx i) dig er w) := by
  have hne : (hName i).toList.isEmpty = false ∧ (hPfx i).length ≤ 100 ∧ 1 ≤ (hPfx i).length ∧ 1 ≤ hSize i := by
    have h : i = 0 ∨ i = 1 ∨ i = 2 ∨ i = 3 ∨ i = 4 ∨ i = 5 ∨ i = 6 ∨ i = 7 := by omega
    rcases h with rfl | rfl | rfl | rfl | rfl | rfl | rfl | rfl <;> decide +kernel
  obtain ⟨hne, hpl1, hpl2, hds⟩ := hne
  have hd1 : 1 ≤ dig.length := by omega
  have HP0 := Lib.hid hp
  have HM0 := Lib.hid hm
  have HG0 := Lib.hid hg
  have HD0 := Lib.hid hd
  have HK0 := Lib.hid hk
  have HS0 := Lib.hid hsz0
  clear hp hm hg hd hsz0 hk
  go_enter Tryz.func44, Tryz.ntmps44
  go_wp2_with fail
  refine (hashPrefixes_any w).mono ?_
  rintro e w1 ⟨rfl, hst⟩
  have hl := run_lookup_hit hst i (hName i, hPfx i) (pfxTab_at i hi) (fun m y => pfxTab_first i hi m y)
  have HPA := Lib.hid (hst.bytes i _ (pfxTab_at i hi))
  have HKW := Lib.hid hst.kept
  obtain ⟨pre, hpre⟩ : ∃ pre, hPfx i = pre := ⟨_, rfl⟩
  rw [hpre] at hl HPA hpl1 hpl2
  have HPRE := Lib.hid hpre
  simp only at hl HPA
  clear hst hpre
  have hhs := hashSize_name i hi w1
  rw [← HS0.out] at hhs
  have HHS := Lib.hid hhs
  have hdd : ((dig.length : Int) != (dig.length : Int)) = false := by simp
  clear hhs
  go_wp2_with fail
  refine HHS.out.mono ?_
  rintro e w' ⟨rfl, rfl⟩
  clear HHS hl
  have hp := HP0.out
  have hm := HM0.out
  have hg := HG0.out
  have hd := HD0.out
  have hk := HK0.out
  have hpl := World.block_lt_of_cell? _ _ hp
  have hgl := World.block_lt_of_cell? _ _ hg
  have hp1 : w1.cell? ⟨pp, 0, none⟩ = some (.pointer (some ⟨q, 0, none⟩)) := ((HKW.out).cell (p := ⟨pp, 0, none⟩) hpl (fun e => e)).trans hp
  have hg1 : w1.cell? ⟨1, 0, none⟩ = some er := ((HKW.out).cell (p := ⟨1, 0, none⟩) hgl (fun e => e)).trans hg
  have hsz := pubSize_any pp q pn bn ms mr od mi rv w1 hp1 (hm.still (HKW.out)) hn
  rw [hk] at hsz
  have HSZ := Lib.hid hsz
  have HDD : Hid (BytesAt w1 D dig) := Lib.hid (hd.still (HKW.out))
  have hdb : ∀ a, D = some a → dig ≠ [] → a.block < w.heap.size := fun a e h0 => by
    subst e
    obtain ⟨b, off, e, hb, _⟩ := hd.at_ (k := 0) (by cases dig with | nil => exact absurd rfl h0 | cons x xs => simp)
    cases e; exact hb
  have HDB := Lib.hid hdb
  clear hp hm hg hd hk hdb
  by_cases hfit : k < pre.length + dig.length + 11
  · skip
    have hlt : (k : Int) < (pre.length : Int) + (dig.length : Int) + 2 + 8 + 1 := by omega
    have hfin : ∀ w', Kept NoBlk w1 w' → ConEM k pre dig er w (.returned (.tuple #[.slice none 0 0, er])) w' := fun w' h => .inl ⟨by first | omega | (simp only [List.length_nil]; omega), rfl, (HKW.out).none h⟩
    have FIN := Lib.hid hfin
    clear hfin hsz hp1
    go_wp2_with fail
    refine HSZ.out.mono ?_
    rintro e w' ⟨rfl, rfl⟩
    clear HSZ
    go_wp2_with fail
    go_quiet (fail)
    go_wp2_with fail
    go_ret2
    rw [HPRE.out]
    exact FIN.out _ ((Kept.refl _ _).drewN _)
  · skip
    have hlt : ¬ (k : Int) < (pre.length : Int) + (dig.length : Int) + 2 + 8 + 1 := by omega
    obtain ⟨n, hnn⟩ : ∃ n, k = n + pre.length + dig.length + 3 := ⟨k - pre.length - dig.length - 3, by omega⟩
    have HNN := Lib.hid hnn
    have hi1 : (k : Int) - (pre.length : Int) - (dig.length : Int) - 1 = ((n + 2 : Nat) : Int) := by omega
    have hi2 : (k : Int) - (pre.length : Int) - (dig.length : Int) = ((n + 3 : Nat) : Int) := by omega
    have hi3 : (k : Int) - (dig.length : Int) = ((n + pre.length + 3 : Nat) : Int) := by omega
    have hk1 : (1 : Int) < (k : Int) := by omega
    have hj1 : ((n + 3 : Nat) : Int) ≤ (k : Int) := by omega
    have hj2 : ((n + pre.length + 3 : Nat) : Int) ≤ (k : Int) := by omega
    have hj3 : ¬ k = n + 3 := by omega
    have hj4 : ¬ k = n + pre.length + 3 := by omega
    have hn1 : n ≤ 1000000 := by omega
    have hmk := fun w' => make_bytes w' k (by omega)
    have hz1 : Blk (w1.alloc (.cells ((zeroRow k).setIfInBounds 1 (.int .u8 1)) 5)) w1.heap.size 5 ((emRow k 0).map B).toArray := by
      rw [← emRow_start k (by omega)]; exact Blk.new _ _ _
    have hz := Blk.new w1 5 (zeroRow k)
    have hze : (w1.alloc (.cells (zeroRow k) 5)).cell? ⟨w1.heap.size, 1, none⟩ = some (.int .u8 0) := hz.cellIs (by
      unfold zeroRow
      rw [List.getElem?_toArray, List.getElem?_map, List.getElem?_replicate, if_pos (by omega)]; rfl)
    have hzf := hz.frozen 1
    have HZ1 := Lib.hid hz1
    have hn2 : n + 2 ≤ k := by omega
    clear hnn hz hz1 hsz hp1 hg1 hfit
    go_wp2_with fail
    refine HSZ.out.mono ?_
    rintro e w' ⟨rfl, rfl⟩
    clear HSZ
    go_wp2_with fail
    clear hze hzf
    go_loopw [12] (fun iv wr => ∃ j : Nat, j ≤ n ∧ iv = .int .i64 ((j + 2 : Nat) : Int) ∧ Blk wr w1.heap.size 5 ((emRow k j).map B).toArray ∧ Kept NoBlk w1 wr) (fun iv _ => n + 2 - (intOf iv).toNat)
    case atStart => exact ⟨0, Nat.zero_le _, rfl, HZ1.out, (Kept.refl NoBlk w1).alloc _⟩
    case round =>
      obtain ⟨j, hj, rfl, hb, hkept⟩ := hrel
      clear HZ1
      by_cases hlt2 : j < n
      · have hl : j + 2 < (emRow k j).length := by rw [emRow_length _ _ (by omega)]; omega
        have hcell : wr.cell? ⟨w1.heap.size, j + 2, none⟩ = some (B (emRow k j)[j + 2]) := hb.cellIs (by
          rw [List.getElem?_toArray, List.getElem?_map, List.getElem?_eq_getElem hl]; rfl)
        obtain ⟨z, hz⟩ : ∃ z, B (emRow k j)[j + 2] = z := ⟨_, rfl⟩
        rw [hz] at hcell
        have hf := hb.frozen (j + 2)
        have h255 := hb.set_ (j + 2) (B 255)
        rw [List.setIfInBounds_toArray, ← List.map_set, emRow_set k j (by omega)] at h255
        have HB := Lib.hid h255
        have HK := Lib.hid hkept
        have hlk : ((j + 2 : Nat) : Int) < (k : Int) := by omega
        have hln : ((j + 2 : Nat) : Int) < ((n + 2 : Nat) : Int) := by omega
        clear hb hkept hz hl h255
        go_wp2_with fail
        go_roundw
        case rel => exact ⟨j + 1, by omega, by first | rfl | go_num | (congr 1; omega), HB.out, HK.out.setNew (Nat.le_refl _) _ _⟩
        case measure => first | (simp [intOf]; done) | (simp [intOf]; omega)
      · obtain rfl : j = n := by omega
        have hdn : ∀ a, D = some a → dig ≠ [] → a.block ≠ w1.heap.size := fun a e h0 => by have := HDB.out a e h0; have := (HKW.out).size; omega
        obtain ⟨w2, w3, r2, r3, b3, k3⟩ := em_copies w1.heap.size k j _ D pre.length cd pre dig wr (by have := HNN.out; first | omega | (simp only [List.length_nil]; omega)) hb ((HPA.out).still hkept) (HDD.out.still hkept) hdn (some ⟨w1.heap.size, j + 3, none⟩) (some ⟨w1.heap.size, j + pre.length + 3, none⟩) (fun h => by first | rfl | (simp at h; done) | (simp at h; omega)) (fun h => by first | rfl | (exfalso; omega) | (simp at h; done))
        have hk3 : Kept NoBlk w w3 := ((HKW.out).none hkept).fresh k3 ((HKW.out).size)
        have hfin : ConEM k pre dig er w (.returned (.tuple #[.slice (some ⟨w1.heap.size, 0, none⟩) k k, .nilIface])) w3 := .inr ⟨by have := HNN.out; first | omega | (simp only [List.length_nil]; omega), w1.heap.size, rfl, (HKW.out).size, by rw [show k - (pre).length - (dig).length - 3 = j by have := HNN.out; first | omega | (simp only [List.length_nil]; omega)]; exact b3, hk3⟩
        have FIN := Lib.hid hfin
        have hlt3 : ¬ ((j + 2 : Nat) : Int) < ((j + 2 : Nat) : Int) := by omega
        clear hb hkept b3 k3 hk3 hfin
        try simp only [List.length_nil, Nat.add_zero] at r2 r3
        go_wp2_with fail
        go_ret2
        rw [HPRE.out]
        exact FIN.out

end Go.Proofs.YtdmpiecdpdknaaaGreatDoor
namespace Go.Proofs.YtdmpiecdpdknaaaGreatDoor
open Go.RowKit

set_option maxHeartbeats 1600000 in
set_option maxRecDepth 4000 in
theorem conEM_bare (pp q pn bn k : Nat) (ms mr : List Nat) (od : Bool) (mi : Nat) (rv er : Value) (D : Option Addr) (cd : Nat) (dig : List UInt8) (w : World) (hp : w.cell? ⟨pp, 0, none⟩ = some (.pointer (some ⟨q, 0, none⟩))) (hm : ModAt w q pn bn ms mr od mi rv) (hn : ms.length + mr.length ≤ 1000000) (hk : (bitLen (val ms) + 7) / 8 = k) (hg : w.cell? ⟨1, 0, none⟩ = some er) (hd : BytesAt w D dig) (hdl : dig.length ≤ 1000000) (hkl : k ≤ 1000000) :
    Calls Tryz.prog 44 #[.pointer (some ⟨pp, 0, none⟩), .string ⟨#[]⟩, .slice D dig.length cd] w (ConEM k [] dig er w) := by
  have HP0 := Lib.hid hp
  have HM0 := Lib.hid hm
  have HG0 := Lib.hid hg
  have HD0 := Lib.hid hd
  have HK0 := Lib.hid hk
  clear hp hm hg hd hk
  have HKW : Hid (Kept NoBlk w w) := Lib.hid (Kept.refl _ w)
  have hp := HP0.out
  have hm := HM0.out
  have hg := HG0.out
  have hd := HD0.out
  have hk := HK0.out
  have hpl := World.block_lt_of_cell? _ _ hp
  have hgl := World.block_lt_of_cell? _ _ hg
  have hp1 : w.cell? ⟨pp, 0, none⟩ = some (.pointer (some ⟨q, 0, none⟩)) := ((HKW.out).cell (p := ⟨pp, 0, none⟩) hpl (fun e => e)).trans hp
  have hg1 : w.cell? ⟨1, 0, none⟩ = some er := ((HKW.out).cell (p := ⟨1, 0, none⟩) hgl (fun e => e)).trans hg
  have hsz := pubSize_any pp q pn bn ms mr od mi rv w hp1 (hm.still (HKW.out)) hn
  rw [hk] at hsz
  have HSZ := Lib.hid hsz
  have HDD : Hid (BytesAt w D dig) := Lib.hid (hd.still (HKW.out))
  have hdb : ∀ a, D = some a → dig ≠ [] → a.block < w.heap.size := fun a e h0 => by
    subst e
    obtain ⟨b, off, e, hb, _⟩ := hd.at_ (k := 0) (by cases dig with | nil => exact absurd rfl h0 | cons x xs => simp)
    cases e; exact hb
  have HDB := Lib.hid hdb
  clear hp hm hg hd hk hdb
  by_cases hfit : k < dig.length + 11
  · go_enter Tryz.func44, Tryz.ntmps44
    have hlt : (k : Int) < (dig.length : Int) + 2 + 8 + 1 := by omega
    have hfin : ∀ w', Kept NoBlk w w' → ConEM k [] dig er w (.returned (.tuple #[.slice none 0 0, er])) w' := fun w' h => .inl ⟨by first | omega | (simp only [List.length_nil]; omega), rfl, (HKW.out).none h⟩
    have FIN := Lib.hid hfin
    clear hfin hsz hp1
    go_wp2_with fail
    refine HSZ.out.mono ?_
    rintro e w' ⟨rfl, rfl⟩
    clear HSZ
    go_wp2_with fail
    go_quiet (fail)
    go_wp2_with fail
    go_ret2
    exact FIN.out _ ((Kept.refl _ _).drewN _)
  by_cases hd0 : dig.length = 0
  · obtain rfl : dig = [] := List.eq_nil_of_length_eq_zero hd0
    simp only [List.length_nil] at hfit hsz ⊢
    clear hd0
    go_enter Tryz.func44, Tryz.ntmps44
    have hlt : ¬ (k : Int) < (0 : Int) + 2 + 8 + 1 := by omega
    obtain ⟨n, hnn⟩ : ∃ n, k = n + 0 + 0 + 3 := ⟨k - 0 - 0 - 3, by omega⟩
    have HNN := Lib.hid hnn
    have hi1 : (k : Int) - (0 : Int) - 1 = ((n + 2 : Nat) : Int) := by omega
    have hi2 : (k : Int) - (0 : Int) = ((n + 3 : Nat) : Int) := by omega
    have hi3 : (k : Int) - (0 : Int) = ((n + 3 : Nat) : Int) := by omega
    have hk1 : (1 : Int) < (k : Int) := by omega
    have hj1 : ((n + 3 : Nat) : Int) ≤ (k : Int) := by omega
    have hj2 : ((n + 3 : Nat) : Int) ≤ (k : Int) := by omega
    have hn1 : n ≤ 1000000 := by omega
    have hmk := fun w' => make_bytes w' k (by omega)
    have hz1 : Blk (w.alloc (.cells ((zeroRow k).setIfInBounds 1 (.int .u8 1)) 5)) w.heap.size 5 ((emRow k 0).map B).toArray := by
      rw [← emRow_start k (by omega)]; exact Blk.new _ _ _
    have hz := Blk.new w 5 (zeroRow k)
    have hze : (w.alloc (.cells (zeroRow k) 5)).cell? ⟨w.heap.size, 1, none⟩ = some (.int .u8 0) := hz.cellIs (by
      unfold zeroRow
      rw [List.getElem?_toArray, List.getElem?_map, List.getElem?_replicate, if_pos (by omega)]; rfl)
    have hzf := hz.frozen 1
    have HZ1 := Lib.hid hz1
    have hn2 : n + 2 ≤ k := by omega
    clear hnn hz hz1 hsz hp1 hg1 hfit
    go_wp2_with fail
    refine HSZ.out.mono ?_
    rintro e w' ⟨rfl, rfl⟩
    clear HSZ
    go_wp2_with fail
    clear hze hzf
    go_loopw [12] (fun iv wr => ∃ j : Nat, j ≤ n ∧ iv = .int .i64 ((j + 2 : Nat) : Int) ∧ Blk wr w.heap.size 5 ((emRow k j).map B).toArray ∧ Kept NoBlk w wr) (fun iv _ => n + 2 - (intOf iv).toNat)
    case atStart => exact ⟨0, Nat.zero_le _, rfl, HZ1.out, (Kept.refl NoBlk w).alloc _⟩
    case round =>
      obtain ⟨j, hj, rfl, hb, hkept⟩ := hrel
      clear HZ1
      by_cases hlt2 : j < n
      · have hl : j + 2 < (emRow k j).length := by rw [emRow_length _ _ (by omega)]; omega
        have hcell : wr.cell? ⟨w.heap.size, j + 2, none⟩ = some (B (emRow k j)[j + 2]) := hb.cellIs (by
          rw [List.getElem?_toArray, List.getElem?_map, List.getElem?_eq_getElem hl]; rfl)
        obtain ⟨z, hz⟩ : ∃ z, B (emRow k j)[j + 2] = z := ⟨_, rfl⟩
        rw [hz] at hcell
        have hf := hb.frozen (j + 2)
        have h255 := hb.set_ (j + 2) (B 255)
        rw [List.setIfInBounds_toArray, ← List.map_set, emRow_set k j (by omega)] at h255
        have HB := Lib.hid h255
        have HK := Lib.hid hkept
        have hlk : ((j + 2 : Nat) : Int) < (k : Int) := by omega
        have hln : ((j + 2 : Nat) : Int) < ((n + 2 : Nat) : Int) := by omega
        clear hb hkept hz hl h255
        go_wp2_with fail
        go_roundw
        case rel => exact ⟨j + 1, by omega, by first | rfl | go_num | (congr 1; omega), HB.out, HK.out.setNew (Nat.le_refl _) _ _⟩
        case measure => first | (simp [intOf]; done) | (simp [intOf]; omega)
      · obtain rfl : j = n := by omega
        have hdn : ∀ a, D = some a → ([] : List UInt8) ≠ [] → a.block ≠ w.heap.size := fun a e h0 => by have := HDB.out a e h0; have := (HKW.out).size; omega
        obtain ⟨w2, w3, r2, r3, b3, k3⟩ := em_copies w.heap.size k j none D 0 cd ([] : List UInt8) [] wr (by have := HNN.out; first | omega | (simp only [List.length_nil]; omega)) hb ((BytesAt.nil _ _).still hkept) (HDD.out.still hkept) hdn (some ⟨w.heap.size, 0, none⟩) (some ⟨w.heap.size, 0, none⟩) (fun h => by first | rfl | (simp at h; done) | (simp at h; omega)) (fun h => by first | rfl | (exfalso; omega) | (simp at h; done))
        have hk3 : Kept NoBlk w w3 := ((HKW.out).none hkept).fresh k3 ((HKW.out).size)
        have hfin : ConEM k ([] : List UInt8) [] er w (.returned (.tuple #[.slice (some ⟨w.heap.size, 0, none⟩) k k, .nilIface])) w3 := .inr ⟨by have := HNN.out; first | omega | (simp only [List.length_nil]; omega), w.heap.size, rfl, (HKW.out).size, by rw [show k - (([] : List UInt8)).length - ([] : List UInt8).length - 3 = j by have := HNN.out; first | omega | (simp only [List.length_nil]; omega)]; exact b3, hk3⟩
        have FIN := Lib.hid hfin
        have hlt3 : ¬ ((j + 2 : Nat) : Int) < ((j + 2 : Nat) : Int) := by omega
        clear hb hkept b3 k3 hk3 hfin
        try simp only [List.length_nil, Nat.add_zero] at r2 r3
        go_wp2_with fail
        go_ret2
        exact FIN.out
  · have hd1 : 1 ≤ dig.length := by omega
    clear hd0
    go_enter Tryz.func44, Tryz.ntmps44
    have hlt : ¬ (k : Int) < (dig.length : Int) + 2 + 8 + 1 := by omega
    obtain ⟨n, hnn⟩ : ∃ n, k = n + 0 + dig.length + 3 := ⟨k - 0 - dig.length - 3, by omega⟩
    have HNN := Lib.hid hnn
    have hi1 : (k : Int) - (dig.length : Int) - 1 = ((n + 2 : Nat) : Int) := by omega
    have hi2 : (k : Int) - (dig.length : Int) = ((n + 3 : Nat) : Int) := by omega
    have hi3 : (k : Int) - (dig.length : Int) = ((n + 3 : Nat) : Int) := by omega
    have hk1 : (1 : Int) < (k : Int) := by omega
    have hj1 : ((n + 3 : Nat) : Int) ≤ (k : Int) := by omega
    have hj2 : ((n + 3 : Nat) : Int) ≤ (k : Int) := by omega
    have hj3 : ¬ k = n + 3 := by omega
    have hj4 : ¬ k = n + 3 := by omega
    have hn1 : n ≤ 1000000 := by omega
    have hmk := fun w' => make_bytes w' k (by omega)
    have hz1 : Blk (w.alloc (.cells ((zeroRow k).setIfInBounds 1 (.int .u8 1)) 5)) w.heap.size 5 ((emRow k 0).map B).toArray := by
      rw [← emRow_start k (by omega)]; exact Blk.new _ _ _
    have hz := Blk.new w 5 (zeroRow k)
    have hze : (w.alloc (.cells (zeroRow k) 5)).cell? ⟨w.heap.size, 1, none⟩ = some (.int .u8 0) := hz.cellIs (by
      unfold zeroRow
      rw [List.getElem?_toArray, List.getElem?_map, List.getElem?_replicate, if_pos (by omega)]; rfl)
    have hzf := hz.frozen 1
    have HZ1 := Lib.hid hz1
    have hn2 : n + 2 ≤ k := by omega
    clear hnn hz hz1 hsz hp1 hg1 hfit
    go_wp2_with fail
    refine HSZ.out.mono ?_
    rintro e w' ⟨rfl, rfl⟩
    clear HSZ
    go_wp2_with fail
    clear hze hzf
    go_loopw [12] (fun iv wr => ∃ j : Nat, j ≤ n ∧ iv = .int .i64 ((j + 2 : Nat) : Int) ∧ Blk wr w.heap.size 5 ((emRow k j).map B).toArray ∧ Kept NoBlk w wr) (fun iv _ => n + 2 - (intOf iv).toNat)
    case atStart => exact ⟨0, Nat.zero_le _, rfl, HZ1.out, (Kept.refl NoBlk w).alloc _⟩
    case round =>
      obtain ⟨j, hj, rfl, hb, hkept⟩ := hrel
      clear HZ1
      by_cases hlt2 : j < n
      · have hl : j + 2 < (emRow k j).length := by rw [emRow_length _ _ (by omega)]; omega
        have hcell : wr.cell? ⟨w.heap.size, j + 2, none⟩ = some (B (emRow k j)[j + 2]) := hb.cellIs (by
          rw [List.getElem?_toArray, List.getElem?_map, List.getElem?_eq_getElem hl]; rfl)
        obtain ⟨z, hz⟩ : ∃ z, B (emRow k j)[j + 2] = z := ⟨_, rfl⟩
        rw [hz] at hcell
        have hf := hb.frozen (j + 2)
        have h255 := hb.set_ (j + 2) (B 255)
        rw [List.setIfInBounds_toArray, ← List.map_set, emRow_set k j (by omega)] at h255
        have HB := Lib.hid h255
        have HK := Lib.hid hkept
        have hlk : ((j + 2 : Nat) : Int) < (k : Int) := by omega
        have hln : ((j + 2 : Nat) : Int) < ((n + 2 : Nat) : Int) := by omega
        clear hb hkept hz hl h255
        go_wp2_with fail
        go_roundw
        case rel => exact ⟨j + 1, by omega, by first | rfl | go_num | (congr 1; omega), HB.out, HK.out.setNew (Nat.le_refl _) _ _⟩
        case measure => first | (simp [intOf]; done) | (simp [intOf]; omega)
      · obtain rfl : j = n := by omega
        have hdn : ∀ a, D = some a → dig ≠ [] → a.block ≠ w.heap.size := fun a e h0 => by have := HDB.out a e h0; have := (HKW.out).size; omega
        obtain ⟨w2, w3, r2, r3, b3, k3⟩ := em_copies w.heap.size k j none D 0 cd ([] : List UInt8) dig wr (by have := HNN.out; first | omega | (simp only [List.length_nil]; omega)) hb ((BytesAt.nil _ _).still hkept) (HDD.out.still hkept) hdn (some ⟨w.heap.size, j + 3, none⟩) (some ⟨w.heap.size, j + 3, none⟩) (fun h => by first | rfl | (simp at h; done) | (simp at h; omega)) (fun h => by first | rfl | (exfalso; omega) | (simp at h; done))
        have hk3 : Kept NoBlk w w3 := ((HKW.out).none hkept).fresh k3 ((HKW.out).size)
        have hfin : ConEM k ([] : List UInt8) dig er w (.returned (.tuple #[.slice (some ⟨w.heap.size, 0, none⟩) k k, .nilIface])) w3 := .inr ⟨by have := HNN.out; first | omega | (simp only [List.length_nil]; omega), w.heap.size, rfl, (HKW.out).size, by rw [show k - (([] : List UInt8)).length - (dig).length - 3 = j by have := HNN.out; first | omega | (simp only [List.length_nil]; omega)]; exact b3, hk3⟩
        have FIN := Lib.hid hfin
        have hlt3 : ¬ ((j + 2 : Nat) : Int) < ((j + 2 : Nat) : Int) := by omega
        clear hb hkept b3 k3 hk3 hfin
        try simp only [List.length_nil, Nat.add_zero] at r2 r3
        go_wp2_with fail
        go_ret2
        exact FIN.out

end Go.Proofs.YtdmpiecdpdknaaaGreatDoor
namespace Go.Proofs.YtdmpiecdpdknaaaGreatDoor
open Go.RowKit

/-- The listed error's variable. -/
def TooLong (w : World) (ea : Addr) : Prop := w.cell? ⟨1, 0, none⟩ = some (.iface 115 (.pointer (some ea)))
theorem TooLong.still {w w' : World} {ea : Addr} (h : TooLong w ea) (k : Kept NoBlk w w') : TooLong w' ea := (k.cell (World.block_lt_of_cell? _ _ h) (fun e => e)).trans h

end Go.Proofs.YtdmpiecdpdknaaaGreatDoor
namespace Go.Proofs.YtdmpiecdpdknaaaGreatDoor
open Go.RowKit

/-- The row of modulus after k rounds. -/
def modRow (n k : Nat) : List UInt8 := List.replicate k 255 ++ List.replicate (n - k) 0
theorem modRow_length (n k : Nat) (h : k ≤ n) : (modRow n k).length = n := by simp [modRow]; omega
theorem modRow_set (n k : Nat) (h : k < n) : (modRow n k).set k 255 = modRow n (k + 1) := by
  unfold modRow
  rw [List.set_append, if_neg (by simp), List.length_replicate, Nat.sub_self, show n - k = (n - (k + 1)) + 1 by omega, List.replicate_succ, List.set_cons_zero, List.replicate_succ' (n := k)]
  simp

def row255 (n : Nat) : List UInt8 := List.replicate n 255

end Go.Proofs.YtdmpiecdpdknaaaGreatDoor
namespace Go.Proofs.YtdmpiecdpdknaaaGreatDoor
open Go.RowKit

theorem num_row255 (n : Nat) : num (row255 n) = Pb n - 1 := by
  unfold row255
  induction n with
  | zero => rfl
  | succ n ih =>
    have := Pb_pos n
    rw [List.replicate_succ, num, ih, List.length_replicate, Pb_succ]
    show 255 * Pb n + (Pb n - 1) = 256 * Pb n - 1
    omega
theorem row255_length (n : Nat) : (row255 n).length = n := List.length_replicate
theorem size_row255 (n : Nat) (hn : 1 ≤ n) : (bitLen (num (row255 n)) + 7) / 8 = n := by
  have h1 := Pb_pos n
  have h2 := Pb_two n
  have e : bitLen (Pb n - 1) = 8 * n := by
    have a := (bitLen_le (Pb n - 1) (8 * n)).2 (by omega)
    have b : ¬ bitLen (Pb n - 1) ≤ 8 * n - 1 := fun h => by
      have := (bitLen_le _ _).1 h
      have e : 2 ^ (8 * n) = 2 * 2 ^ (8 * n - 1) := by rw [← Nat.pow_succ']; congr 1; omega
      have := Nat.pow_pos (n := 8 * n - 1) (show 0 < 2 by decide)
      have : 2 ≤ 2 ^ (8 * n - 1) := by
        have := Nat.pow_le_pow_right (n := 2) (by decide) (show 1 ≤ 8 * n - 1 by omega)
        simpa using this
      omega
    omega
  rw [num_row255, e]; omega
theorem row255_big (n : Nat) (hn : 1 ≤ n) : 1 < num (row255 n) := by
  rw [num_row255]
  have := Pb_le hn
  have : Pb 1 = 256 := rfl
  omega

/-- What ZZConstructEM leaves. -/
def ZzEM (k : Nat) (pre dig : List UInt8) (ea : Addr) (w : World) (e : Ending) (w' : World) : Prop := ConEM k pre dig (.iface 115 (.pointer (some ea))) w e w'

theorem ConEM.later {k : Nat} {pre dig : List UInt8} {er : Value} {w0 w w' : World} {e : Ending} (h : ConEM k pre dig er w e w') (k0 : Kept NoBlk w0 w) : ConEM k pre dig er w0 e w' := by
  rcases h with ⟨a, b, c⟩ | ⟨a, g, b, c, d, e⟩
  · exact .inl ⟨a, b, k0.none c⟩
  · exact .inr ⟨a, g, b, Nat.le_trans k0.size c, d, k0.none e⟩

def errBlk : Nat := 1
/-- What impl.Encode15 leaves. -/
def ImplEnc (k : Nat) (pre dig : List UInt8) (w : World) (e : Ending) (w' : World) : Prop :=
  (k < pre.length + dig.length + 11 ∧ e = .returned (.tuple #[.slice none 0 0, .bool false]) ∧ Kept NoBlk w w') ∨
  (pre.length + dig.length + 11 ≤ k ∧ ∃ A c, e = .returned (.tuple #[.slice A (emOf (k - pre.length - dig.length - 3) pre dig).length c, .bool true]) ∧ BytesAt w' A (emOf (k - pre.length - dig.length - 3) pre dig) ∧ Kept NoBlk w w')

end Go.Proofs.YtdmpiecdpdknaaaGreatDoor
namespace Go.Proofs.YtdmpiecdpdknaaaGreatDoor
open Go.RowKit

def MisErr (w : World) (e : Ending) (w' : World) : Prop := ∃ a, e = .returned (.tuple #[.slice none 0 0, .iface 115 (.pointer (some a))]) ∧ Kept NoBlk w w'

theorem conEM_mis (i : Nat) (hi : i < 8) (pp : Nat) (D : Option Addr) (cd : Nat) (dig : List UInt8) (w : World) (hsz : dig.length ≠ hSize i) :
    Calls Tryz.prog 44 #[.pointer (some ⟨pp, 0, none⟩), .string (hName i), .slice D dig.length cd] w (MisErr w) := by
  have hne : (hName i).toList.isEmpty = false := by
    have h : i = 0 ∨ i = 1 ∨ i = 2 ∨ i = 3 ∨ i = 4 ∨ i = 5 ∨ i = 6 ∨ i = 7 := by omega
    rcases h with rfl | rfl | rfl | rfl | rfl | rfl | rfl | rfl <;> decide +kernel
  have HS0 := Lib.hid hsz
  clear hsz
  go_enter Tryz.func44, Tryz.ntmps44
  go_wp2_with fail
  refine (hashPrefixes_any w).mono ?_
  rintro e w1 ⟨rfl, hst⟩
  have hl := run_lookup_hit hst i (hName i, hPfx i) (pfxTab_at i hi) (fun m y => pfxTab_first i hi m y)
  have HKW := Lib.hid hst.kept
  obtain ⟨pre, hpre⟩ : ∃ pre, hPfx i = pre := ⟨_, rfl⟩
  rw [hpre] at hl
  simp only at hl
  clear hst hpre
  have HHS := Lib.hid (hashSize_name i hi w1)
  obtain ⟨z, hz⟩ : ∃ z, hSize i = z := ⟨_, rfl⟩
  rw [hz] at HHS
  have hdd : ((dig.length : Int) != (z : Int)) = true := by
    rw [bne_iff_ne]
    have := HS0.out
    omega
  clear hz
  go_wp2_with fail
  refine HHS.out.mono ?_
  rintro e w' ⟨rfl, rfl⟩
  clear HHS hl
  go_wp2_with fail
  refine (errNew_any _ _).mono ?_
  rintro e w2 ⟨rfl, k2⟩
  have HK := Lib.hid (HKW.out.none k2)
  clear k2
  go_wp2_with fail
  go_ret2
  exact ⟨_, rfl, HK.out⟩

end Go.Proofs.YtdmpiecdpdknaaaGreatDoor
