/-
  Public keys: ZZNewPublicKey, checkPublicKey, impl.public.
-/
import Derived.Test.YtdmpiecdpdknaaaEncr
import Derived.Test.YtdmpiecdpdknaaaGh
namespace Go.Proofs.Ytdmpiecdpdknaaa
open Go.RowKit

theorem Md.bytes_le {w : World} {q pn pr n m : Nat} (h : Md w q pn pr n m) : (bitLen m + 7) / 8 ≤ 8 * n := by
  have h1 := h.mlt
  rw [show Pw n = 2 ^ (64 * n) by unfold Pw; rw [Nat.pow_mul]] at h1
  have := (bitLen_le m (64 * n)).2 h1
  omega

/-- What a public operation leaves. -/
def PubOut (m e : Nat) (xs : List UInt8) (w : World) (x : Ending) (w' : World) : Prop :=
  (num xs < m ∧ ∃ A c, x = .returned (.tuple #[.slice A (enc ((bitLen m + 7) / 8) (num xs ^ e % m)).length c, .bool true]) ∧ BytesAt w' A (enc ((bitLen m + 7) / 8) (num xs ^ e % m)) ∧ (enc ((bitLen m + 7) / 8) (num xs ^ e % m)).length ≤ c ∧ (0 < (bitLen m + 7) / 8 → ∃ g, A = some ⟨g, 0, none⟩ ∧ w.heap.size ≤ g) ∧ Kept NoBlk w w') ∨
  (m ≤ num xs ∧ x = .returned (.tuple #[.slice none 0 0, .bool false]) ∧ Kept NoBlk w w')

set_option maxRecDepth 200000 in
theorem checkPub_nm (pp q pn pr n m e : Nat) (w : World) (hp : Pub w pp q pn pr n m e) (ho : m % 2 = 1) (he0 : 2 ≤ e) (heo : e % 2 = 1) (he : e ≤ 2147483647) (hm : bitLen m < 2048) :
    Calls Try.prog 66 #[.pointer (some ⟨pp, 0, none⟩)] w fun x w' => x = .returned (.tuple #[.bool false, .nilIface]) ∧ Kept NoBlk w w' := by
  obtain ⟨c1, c2⟩ := hp.cells
  have hn1 := hp.md.2.1
  have HN := Lib.hid (modNat_nm q pn pr n m w hp.md)
  have HP := Lib.hid hp
  have hand := and_one_i64 e (by omega)
  rw [heo] at hand
  have HO := Lib.hid ho
  obtain ⟨bl, hbl⟩ : ∃ bl, bitLen m = bl := ⟨_, rfl⟩
  have HBL := Lib.hid hbl
  rw [hbl] at hm
  have hmi : (bl : Int) < 2048 := by omega
  clear hp heo ho hbl hm
  go_enter Try.func66, Try.ntmps66
  go_wp2_with fail
  refine HN.out.mono ?_
  rintro x w1 ⟨rfl, h1, k1⟩
  have hod := isOdd_nm (w.heap.size + 1) n m w1 h1 hn1
  rw [HO.out] at hod
  have HOD := Lib.hid hod
  have hp1 := HP.out.still k1
  obtain ⟨d1, d2⟩ := hp1.cells
  have hbl := bitLen_md q pn pr n m w1 hp1.md
  rw [HBL.out] at hbl
  have HB := Lib.hid hbl
  have K1 := Lib.hid k1
  clear h1 k1 hod hp1 hbl HN c1 c2
  go_wp2_with fail
  refine HOD.out.mono ?_
  rintro x w' ⟨rfl, rfl⟩
  clear HOD
  go_wp2_with fail
  refine HB.out.mono ?_
  rintro x w' ⟨rfl, rfl⟩
  go_wp2_with fail
  refine HB.out.mono ?_
  rintro x w' ⟨rfl, rfl⟩
  clear HB
  rcases Nat.mod_two_eq_zero_or_one bl with hb2 | hb2 <;> rcases Nat.lt_or_ge 65536 e with h65 | h65
  all_goals
    have hb2i : (bl : Int).tmod 2 = ((bl % 2 : Nat) : Int) := by rw [Int.tmod_eq_emod_of_nonneg (by omega)]; simp
    rw [hb2] at hb2i
    have hb2j : (bl : Int) % 2 = ((bl % 2 : Nat) : Int) := by simp
    rw [hb2] at hb2j
    have e1 : ¬ (e : Int) < 2 := by omega
    have e2 : ¬ (2147483647 : Int) < (e : Int) := by omega
    first
      | have e3 : ¬ (e : Int) ≤ 65536 := by omega
      | have e3 : (e : Int) ≤ 65536 := by omega
    clear hb2 he h65 he0
    go_wp2_with fail
    go_ret2
    exact ⟨rfl, K1.out⟩

end Go.Proofs.Ytdmpiecdpdknaaa
