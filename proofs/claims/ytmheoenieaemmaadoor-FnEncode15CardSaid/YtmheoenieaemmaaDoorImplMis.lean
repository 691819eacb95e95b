/-
  rsa.pkcs1v15ConstructEM, ZZConstructEM, impl.Encode15 where the hash is not of its size.
-/
import Derived.Test.YtmheoenieaemmaaDoorImplEnc
namespace Go.Proofs.YtmheoenieaemmaaDoor
open Go.RowKit

def MisErr (w : World) (e : Ending) (w' : World) : Prop := ∃ a, e = .returned (.tuple #[.slice none 0 0, .iface 148 (.pointer (some a))]) ∧ Kept NoBlk w w'

theorem conEM_mis (i : Nat) (hi : i < 8) (pp : Nat) (D : Option Addr) (cd : Nat) (dig : List UInt8) (w : World) (hsz : dig.length ≠ hSize i) :
    Calls Tryd.prog 50 #[.pointer (some ⟨pp, 0, none⟩), .string (hName i), .slice D dig.length cd] w (MisErr w) := by
  have hne : (hName i).toList.isEmpty = false := by
    have h : i = 0 ∨ i = 1 ∨ i = 2 ∨ i = 3 ∨ i = 4 ∨ i = 5 ∨ i = 6 ∨ i = 7 := by omega
    rcases h with rfl | rfl | rfl | rfl | rfl | rfl | rfl | rfl <;> decide +kernel
  have HS0 := Lib.hid hsz
  clear hsz
  go_enter Tryd.func50, Tryd.ntmps50
  go_wp2_with fail
  refine (hashPrefixes_any w).mono ?_
  rintro e w1 ⟨rfl, hst⟩
  have hl := run_lookup_hit hst i (hName i, hPfx i) (pfxTab_at i hi) (fun m y => pfxTab_first i hi m y)
  have HKW := Lib.hid hst.kept
  obtain ⟨pre, hpre⟩ : ∃ pre, hPfx i = pre := ⟨_, rfl⟩
  rw [hpre] at hl
  simp only at hl
  clear hst hpre
  have HHS := Lib.hid (hashSize_name i hi w1)
  obtain ⟨z, hz⟩ : ∃ z, hSize i = z := ⟨_, rfl⟩
  rw [hz] at HHS
  have hdd : ((dig.length : Int) != (z : Int)) = true := by
    rw [bne_iff_ne]
    have := HS0.out
    omega
  clear hz
  go_wp2_with fail
  refine HHS.out.mono ?_
  rintro e w' ⟨rfl, rfl⟩
  clear HHS hl
  go_wp2_with fail
  refine (errNew_any _ _).mono ?_
  rintro e w2 ⟨rfl, k2⟩
  have HK := Lib.hid (HKW.out.none k2)
  clear k2
  go_wp2_with fail
  go_ret2
  exact ⟨_, rfl, HK.out⟩

theorem zzEM_mis (i : Nat) (hi : i < 8) (n : Nat) (hn1 : 1 ≤ n) (hn : n ≤ 1000) (A D : Option Addr) (ca cd : Nat) (dig : List UInt8) (w : World) (ha : BytesAt w A (row255 n)) (hA : ∀ a, A = some a → a.block < w.heap.size) (hca : n ≤ ca) (hsz : dig.length ≠ hSize i) :
    Calls Tryd.prog 30 #[.slice A n ca, .string (hName i), .slice D dig.length cd] w (MisErr w) := by
  have hnm := newMod_any A ca (row255 n) w ha (fun a e _ => hA a e) (by rw [row255_length]; exact hca) (by rw [row255_length]; omega) (row255_big n hn1)
  rw [row255_length] at hnm
  have HNM := Lib.hid hnm
  have HC : Hid (∀ pp w', Calls Tryd.prog 50 #[.pointer (some ⟨pp, 0, none⟩), .string (hName i), .slice D dig.length cd] w' (MisErr w')) := Lib.hid (fun pp w' => conEM_mis i hi pp D cd dig w' hsz)
  clear hnm ha hsz hA
  go_enter Tryd.func30, Tryd.ntmps30
  go_wp2_with fail
  refine HNM.out.mono ?_
  rintro e w1 ⟨q, pn, bn, ms, mr, rfl, _, _, _, _, _, _, _, _, k1⟩
  have HK1 := Lib.hid k1
  clear k1 HNM
  go_wp2_with fail
  refine (HC.out _ _).mono ?_
  rintro e w2 ⟨a, rfl, k2⟩
  have HK := Lib.hid ((HK1.out.alloc _).none k2)
  clear k2 HC
  go_wp2_with fail
  go_ret2
  exact ⟨_, rfl, HK.out⟩

theorem implEnc_mis (i : Nat) (hi : i < 8) (n : Nat) (hn1 : 1 ≤ n) (hn : n ≤ 1000) (A D : Option Addr) (ca cd : Nat) (dig : List UInt8) (w : World) (ha : BytesAt w A (row255 n)) (hd : BytesAt w D dig) (hdl : dig.length ≤ 1000000) (hsz : dig.length ≠ hSize i) :
    Calls Tryd.prog 15 #[.slice A n ca, .string (hName i), .slice D dig.length cd] w fun e w' => e = .returned (.tuple #[.slice none 0 0, .bool false]) ∧ Kept NoBlk w w' := by
  have hcp := copied_any w A ca (row255 n) ha (by rw [row255_length]; omega)
  rw [row255_length] at hcp
  have HCP := Lib.hid hcp
  have HD := Lib.hid hd
  have HSZ := Lib.hid hsz
  clear hcp ha hd hsz
  go_enter Tryd.func15, Tryd.ntmps15
  go_wp2_with fail
  refine HCP.out.mono ?_
  rintro e w1 ⟨v1, rfl, ho1, k1⟩
  rw [row255_length] at ho1
  obtain ⟨A1, c1, rfl, hl1, _, hat1, hb1⟩ := own_form ho1
  have hA1 := own_lt ho1
  have HCD := Lib.hid (copied_any w1 D cd dig (HD.out.still k1) (by omega))
  have HK1 := Lib.hid k1
  have HA1 := Lib.hid hat1
  have HAL := Lib.hid (fun a e => (hA1 a e).2)
  clear ho1 k1 hat1 hb1 hA1 HCP
  go_wp2_with fail
  refine HCD.out.mono ?_
  rintro e w2 ⟨v2, rfl, ho2, k2⟩
  obtain ⟨D2, c2, rfl, hl2, _, hat2, _⟩ := own_form ho2
  have HZZ := Lib.hid (zzEM_mis i hi n hn1 hn A1 D2 c1 c2 dig w2 (BytesAt.still (show BytesAt w1 A1 (row255 n) from HA1.out) k2) (fun a e => Nat.lt_of_lt_of_le (HAL.out a e) k2.size) hl1 HSZ.out)
  have HK2 := Lib.hid (HK1.out.none k2)
  clear ho2 k2 hat2 HCD
  go_wp2_with fail
  refine HZZ.out.mono ?_
  rintro e w3 ⟨a, rfl, k3⟩
  have HK3 := Lib.hid (HK2.out.none k3)
  clear k3 HZZ
  go_wp2_with fail
  refine (either_err _ a w3).mono ?_
  rintro e w4 ⟨rfl, rfl⟩
  go_wp2_with fail
  go_ret2
  exact ⟨rfl, HK3.out⟩

end Go.Proofs.YtmheoenieaemmaaDoor
