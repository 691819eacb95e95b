/-
  Public keys: ZZNewPublicKey, checkPublicKey, impl.public.
-/
import Derived.Test.YtdmpiecdpdknaaaGreatDoorEncr
import Derived.Test.YtdmpiecdpdknaaaGreatDoorGh
namespace Go.Proofs.YtdmpiecdpdknaaaGreatDoor
open Go.RowKit

theorem Md.bytes_le {w : World} {q pn pr n m : Nat} (h : Md w q pn pr n m) : (bitLen m + 7) / 8 ≤ 8 * n := by
  have h1 := h.mlt
  rw [show Pw n = 2 ^ (64 * n) by unfold Pw; rw [Nat.pow_mul]] at h1
  have := (bitLen_le m (64 * n)).2 h1
  omega

theorem newPub_any (A : Option Addr) (cap e : Nat) (bs : List UInt8) (w : World) (hb : BytesAt w A bs) (hc : bs.length ≤ cap) (hL : bs.length ≤ 256) (h1 : 1 < num bs) :
    Calls Tryz.prog 35 #[.slice A bs.length cap, .int .i64 (e : Int)] w fun x w' =>
      ∃ pp q pn pr n, x = .returned (.tuple #[.pointer (some ⟨pp, 0, none⟩), .nilIface]) ∧ Pub w' pp q pn pr n (num bs) e ∧ Kept NoBlk w w' := by
  have HN := Lib.hid (newMod_md A cap bs w hb hb.below hc hL h1)
  clear hb h1
  go_enter Tryz.func35, Tryz.ntmps35
  go_wp2_with fail
  refine HN.out.mono ?_
  rintro x w1 ⟨q, pn, pr, n, rfl, _, _, _, hm, k⟩
  have hfin : ∀ w', w' = w1.alloc (.cells #[.pointer (some ⟨q, 0, none⟩), .int .i64 (e : Int)] 78) → Pub w' w1.heap.size q pn pr n (num bs) e ∧ Kept NoBlk w w' := by
    rintro w' rfl
    have hb := Blk.new w1 78 #[.pointer (some ⟨q, 0, none⟩), .int .i64 (e : Int)]
    exact ⟨⟨hb.lt, hb.cellIs rfl, hb.cellIs rfl, hm.still ((Kept.refl _ w1).alloc _)⟩, k.alloc _⟩
  have FIN := Lib.hid hfin
  clear hfin hm k HN
  go_wp2_with fail
  go_ret2
  exact ⟨_, q, pn, pr, n, rfl, FIN.out _ rfl⟩

theorem public_any (A : Option Addr) (cap e : Nat) (bs : List UInt8) (w : World) (hb : BytesAt w A bs) (hL : bs.length ≤ 256) (h1 : 1 < num bs) :
    Calls Tryz.prog 22 #[.slice A bs.length cap, .int .i64 (e : Int)] w fun x w' =>
      ∃ pp q pn pr n, x = .returned (.tuple #[.pointer (some ⟨pp, 0, none⟩), .nilIface]) ∧ Pub w' pp q pn pr n (num bs) e ∧ Kept NoBlk w w' := by
  have HC := Lib.hid (copied_any w A cap bs hb (by omega))
  have H1 := Lib.hid h1
  clear hb h1
  go_enter Tryz.func22, Tryz.ntmps22
  go_wp2_with fail
  refine HC.out.mono ?_
  rintro x w1 ⟨v, rfl, hown, k1⟩
  obtain ⟨A1, c1, rfl, hc1, _, hat1, _⟩ := own_form hown
  have HN := Lib.hid (newPub_any A1 c1 e bs w1 hat1 hc1 hL H1.out)
  have K1 := Lib.hid k1
  clear hown k1 hat1 HC
  go_wp2_with fail
  refine HN.out.mono ?_
  rintro x w2 ⟨pp, q, pn, pr, n, rfl, hP, k2⟩
  have hfin : Pub w2 pp q pn pr n (num bs) e ∧ Kept NoBlk w w2 := ⟨hP, K1.out.none k2⟩
  have FIN := Lib.hid hfin
  clear hfin hP k2 HN
  go_wp2_with fail
  go_ret2
  exact ⟨pp, q, pn, pr, n, rfl, FIN.out⟩

/-- What a public operation leaves. -/
def PubOut (m e : Nat) (xs : List UInt8) (w : World) (x : Ending) (w' : World) : Prop :=
  (num xs < m ∧ ∃ A c, x = .returned (.tuple #[.slice A (enc ((bitLen m + 7) / 8) (num xs ^ e % m)).length c, .bool true]) ∧ BytesAt w' A (enc ((bitLen m + 7) / 8) (num xs ^ e % m)) ∧ (enc ((bitLen m + 7) / 8) (num xs ^ e % m)).length ≤ c ∧ (0 < (bitLen m + 7) / 8 → ∃ g, A = some ⟨g, 0, none⟩ ∧ w.heap.size ≤ g) ∧ Kept NoBlk w w') ∨
  (m ≤ num xs ∧ x = .returned (.tuple #[.slice none 0 0, .bool false]) ∧ Kept NoBlk w w')

set_option maxRecDepth 200000 in
theorem checkPub_nm (pp q pn pr n m e : Nat) (w : World) (hp : Pub w pp q pn pr n m e) (ho : m % 2 = 1) (he0 : 2 ≤ e) (heo : e % 2 = 1) (he : e ≤ 2147483647) (hm : bitLen m < 2048) :
    Calls Tryz.prog 48 #[.pointer (some ⟨pp, 0, none⟩)] w fun x w' => x = .returned (.tuple #[.bool false, .nilIface]) ∧ Kept NoBlk w w' := by
  obtain ⟨c1, c2⟩ := hp.cells
  have hn1 := hp.md.2.1
  have HN := Lib.hid (modNat_nm q pn pr n m w hp.md)
  have HP := Lib.hid hp
  have hand := and_one_i64 e (by omega)
  rw [heo] at hand
  have HO := Lib.hid ho
  obtain ⟨bl, hbl⟩ : ∃ bl, bitLen m = bl := ⟨_, rfl⟩
  have HBL := Lib.hid hbl
  rw [hbl] at hm
  have hmi : (bl : Int) < 2048 := by omega
  clear hp heo ho hbl hm
  go_enter Tryz.func48, Tryz.ntmps48
  go_wp2_with fail
  refine HN.out.mono ?_
  rintro x w1 ⟨rfl, h1, k1⟩
  have hod := isOdd_nm (w.heap.size + 1) n m w1 h1 hn1
  rw [HO.out] at hod
  have HOD := Lib.hid hod
  have hp1 := HP.out.still k1
  obtain ⟨d1, d2⟩ := hp1.cells
  have hbl := bitLen_md q pn pr n m w1 hp1.md
  rw [HBL.out] at hbl
  have HB := Lib.hid hbl
  have K1 := Lib.hid k1
  clear h1 k1 hod hp1 hbl HN c1 c2
  go_wp2_with fail
  refine HOD.out.mono ?_
  rintro x w' ⟨rfl, rfl⟩
  clear HOD
  go_wp2_with fail
  refine HB.out.mono ?_
  rintro x w' ⟨rfl, rfl⟩
  go_wp2_with fail
  refine HB.out.mono ?_
  rintro x w' ⟨rfl, rfl⟩
  clear HB
  rcases Nat.mod_two_eq_zero_or_one bl with hb2 | hb2 <;> rcases Nat.lt_or_ge 65536 e with h65 | h65
  all_goals
    have hb2i : (bl : Int).tmod 2 = ((bl % 2 : Nat) : Int) := by rw [Int.tmod_eq_emod_of_nonneg (by omega)]; simp
    rw [hb2] at hb2i
    have hb2j : (bl : Int) % 2 = ((bl % 2 : Nat) : Int) := by simp
    rw [hb2] at hb2j
    have e1 : ¬ (e : Int) < 2 := by omega
    have e2 : ¬ (2147483647 : Int) < (e : Int) := by omega
    first
      | have e3 : ¬ (e : Int) ≤ 65536 := by omega
      | have e3 : (e : Int) ≤ 65536 := by omega
    clear hb2 he h65 he0
    go_wp2_with fail
    go_ret2
    exact ⟨rfl, K1.out⟩

end Go.Proofs.YtdmpiecdpdknaaaGreatDoor
