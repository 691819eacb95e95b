/-
  Public keys: ZZNewPublicKey, checkPublicKey, rsa.Encrypt, impl.public, Public, Encrypt.
-/
import Derived.Test.YtmheoenieaemmaaEncr
import Derived.Test.YtmheoenieaemmaaSpecN3
namespace Go.Proofs.Ytmheoenieaemmaa
open Go.RowKit

theorem Md.bytes_le {w : World} {q pn pr n m : Nat} (h : Md w q pn pr n m) : (bitLen m + 7) / 8 ≤ 8 * n := by
  have h1 := h.mlt
  rw [show Pw n = 2 ^ (64 * n) by unfold Pw; rw [Nat.pow_mul]] at h1
  have := (bitLen_le m (64 * n)).2 h1
  omega

theorem newPub_any (A : Option Addr) (cap e : Nat) (bs : List UInt8) (w : World) (hb : BytesAt w A bs) (hc : bs.length ≤ cap) (hL : bs.length ≤ 256) (h1 : 1 < num bs) :
    Calls Try.prog 35 #[.slice A bs.length cap, .int .i64 (e : Int)] w fun x w' =>
      ∃ pp q pn pr n, x = .returned (.tuple #[.pointer (some ⟨pp, 0, none⟩), .nilIface]) ∧ Pub w' pp q pn pr n (num bs) e ∧ Kept NoBlk w w' := by
  have HN := Lib.hid (newMod_md A cap bs w hb hb.below hc hL h1)
  clear hb h1
  go_enter Try.func35, Try.ntmps35
  go_wp2_with fail
  refine HN.out.mono ?_
  rintro x w1 ⟨q, pn, pr, n, rfl, _, _, _, hm, k⟩
  have hfin : ∀ w', w' = w1.alloc (.cells #[.pointer (some ⟨q, 0, none⟩), .int .i64 (e : Int)] 71) → Pub w' w1.heap.size q pn pr n (num bs) e ∧ Kept NoBlk w w' := by
    rintro w' rfl
    have hb := Blk.new w1 71 #[.pointer (some ⟨q, 0, none⟩), .int .i64 (e : Int)]
    exact ⟨⟨hb.lt, hb.cellIs rfl, hb.cellIs rfl, hm.still ((Kept.refl _ w1).alloc _)⟩, k.alloc _⟩
  have FIN := Lib.hid hfin
  clear hfin hm k HN
  go_wp2_with fail
  go_ret2
  exact ⟨_, q, pn, pr, n, rfl, FIN.out _ rfl⟩

theorem public_any (A : Option Addr) (cap e : Nat) (bs : List UInt8) (w : World) (hb : BytesAt w A bs) (hL : bs.length ≤ 256) (h1 : 1 < num bs) :
    Calls Try.prog 23 #[.slice A bs.length cap, .int .i64 (e : Int)] w fun x w' =>
      ∃ pp q pn pr n, x = .returned (.tuple #[.pointer (some ⟨pp, 0, none⟩), .nilIface]) ∧ Pub w' pp q pn pr n (num bs) e ∧ Kept NoBlk w w' := by
  have HC := Lib.hid (copied_any w A cap bs hb (by omega))
  have H1 := Lib.hid h1
  clear hb h1
  go_enter Try.func23, Try.ntmps23
  go_wp2_with fail
  refine HC.out.mono ?_
  rintro x w1 ⟨v, rfl, hown, k1⟩
  obtain ⟨A1, c1, rfl, hc1, _, hat1, _⟩ := own_form hown
  have HN := Lib.hid (newPub_any A1 c1 e bs w1 hat1 hc1 hL H1.out)
  have K1 := Lib.hid k1
  clear hown k1 hat1 HC
  go_wp2_with fail
  refine HN.out.mono ?_
  rintro x w2 ⟨pp, q, pn, pr, n, rfl, hP, k2⟩
  have hfin : Pub w2 pp q pn pr n (num bs) e ∧ Kept NoBlk w w2 := ⟨hP, K1.out.none k2⟩
  have FIN := Lib.hid hfin
  clear hfin hP k2 HN
  go_wp2_with fail
  go_ret2
  exact ⟨pp, q, pn, pr, n, rfl, FIN.out⟩

/-- What a public operation leaves. -/
def PubOut (m e : Nat) (xs : List UInt8) (w : World) (x : Ending) (w' : World) : Prop :=
  (num xs < m ∧ ∃ A c, x = .returned (.tuple #[.slice A (enc ((bitLen m + 7) / 8) (num xs ^ e % m)).length c, .bool true]) ∧ BytesAt w' A (enc ((bitLen m + 7) / 8) (num xs ^ e % m)) ∧ (enc ((bitLen m + 7) / 8) (num xs ^ e % m)).length ≤ c ∧ (0 < (bitLen m + 7) / 8 → ∃ g, A = some ⟨g, 0, none⟩ ∧ w.heap.size ≤ g) ∧ Kept NoBlk w w') ∨
  (m ≤ num xs ∧ x = .returned (.tuple #[.slice none 0 0, .bool false]) ∧ Kept NoBlk w w')

theorem zzPublic_nm (pp q pn pr n m e : Nat) (A : Option Addr) (cap : Nat) (bs : List UInt8) (w : World) (hp : Pub w pp q pn pr n m e) (ho : m % 2 = 1) (he0 : 0 < e) (he : e < 9223372036854775808) (hb : BytesAt w A bs) (hc : bs.length ≤ cap) (hL : bs.length ≤ 4294967296) :
    Calls Try.prog 25 #[.pointer (some ⟨pp, 0, none⟩), .slice A bs.length cap] w (Encr n m e bs w) := by
  have HE := Lib.hid (encrypt_nm pp q pn pr n m e A cap bs w hp ho he0 he hb hc hL)
  clear hp hb
  go_enter Try.func25, Try.ntmps25
  go_wp2_with fail
  refine HE.out.mono ?_
  intro x w1 h
  have H := Lib.hid h
  rcases h with ⟨a1, a2, g, rfl, a3, a4, a5⟩ | ⟨a1, a, rfl, a2⟩
  all_goals
    clear HE
    go_wp2_with fail
    go_ret2
    exact H.out

theorem implPublic_any (A B' : Option Addr) (cap cap' e : Nat) (bs xs : List UInt8) (w : World) (hb : BytesAt w A bs) (hL : bs.length ≤ 256) (h1 : 1 < num bs) (ho : num bs % 2 = 1) (he0 : 0 < e) (he : e < 9223372036854775808)
    (hx : BytesAt w B' xs) (hxl : xs.length ≤ (bitLen (num bs) + 7) / 8) :
    Calls Try.prog 10 #[.slice A bs.length cap, .int .i64 (e : Int), .slice B' xs.length cap'] w (PubOut (num bs) e xs w) := by
  have hbl : (bitLen (num bs) + 7) / 8 ≤ 256 := by
    have := bitLen_bytes bs 256 hL
    omega
  have HP := Lib.hid (public_any A cap e bs w hb hL h1)
  have HX := Lib.hid hx
  clear hb hx
  obtain ⟨m, hm⟩ : ∃ m, num bs = m := ⟨_, rfl⟩
  rw [hm] at HP hxl hbl ho ⊢
  clear hm h1
  go_enter Try.func10, Try.ntmps10
  go_wp2_with fail
  refine HP.out.mono ?_
  rintro x w1 ⟨pp, q, pn, pr, n, rfl, hP, k1⟩
  have HPU := Lib.hid hP
  have K1 := Lib.hid k1
  have HC := Lib.hid (copied_any w1 B' cap' xs (HX.out.still k1) (by omega))
  have hn8 := hP.md.bytes_le
  clear hP k1 HP
  go_wp2_with fail
  refine HC.out.mono ?_
  rintro x w2 ⟨v, rfl, hown, k2⟩
  obtain ⟨A1, c1, rfl, hc1, _, hat1, _⟩ := own_form hown
  have HZ := Lib.hid (zzPublic_nm pp q pn pr n m e A1 c1 xs w2 (HPU.out.still k2) ho he0 he hat1 hc1 (by omega))
  have K2 := Lib.hid (K1.out.none k2)
  clear hown k2 hat1 HC
  go_wp2_with fail
  refine HZ.out.mono ?_
  intro x w3 h
  rcases h with ⟨a1, a2, g, rfl, a3, a4, a5⟩ | ⟨a1, a, rfl, a2⟩
  · have hei := either_ok (some ⟨g, 0, none⟩) ((bitLen m + 7) / 8) (enc ((bitLen m + 7) / 8) (num xs ^ e % m)) w3 a4.bytes (by rw [enc_length]; omega)
    rw [enc_length] at hei
    have HE := Lib.hid hei
    have A1' := Lib.hid a1
    have K3 := Lib.hid (K2.out.none a5)
    clear hei a1 a2 a3 a4 a5 HZ
    go_wp2_with fail
    refine HE.out.mono ?_
    rintro x w4 ⟨v, rfl, hown, k4⟩
    have hown' : w4.ownsRow w3.heap.size 5 1 v (enc ((bitLen m + 7) / 8) (num xs ^ e % m)).length ((enc ((bitLen m + 7) / 8) (num xs ^ e % m)).map B) := by rw [enc_length]; exact hown
    obtain ⟨A4, c4, rfl, hc4, _, hat4, hg4⟩ := own_form hown'
    have hfin : PubOut m e xs w (.returned (.tuple #[.slice A4 (enc ((bitLen m + 7) / 8) (num xs ^ e % m)).length c4, .bool true])) w4 :=
      .inl ⟨A1'.out, A4, c4, rfl, hat4, hc4, fun h => by
        obtain ⟨g, e1, e2, _⟩ := hg4 (by rw [enc_length]; exact h)
        exact ⟨g, e1, Nat.le_trans K3.out.size e2⟩, K3.out.none k4⟩
    have FIN := Lib.hid hfin
    clear hfin hown hown' hat4 k4 HE hg4
    go_wp2_with fail
    go_ret2
    exact FIN.out
  · have HE := Lib.hid (either_err (.slice none 0 0) a w3)
    have hfin : PubOut m e xs w (.returned (.tuple #[.slice none 0 0, .bool false])) w3 := .inr ⟨by rcases a1 with h | h; exact h; omega, rfl, K2.out.none a2⟩
    have FIN := Lib.hid hfin
    clear hfin a1 a2 HZ
    go_wp2_with fail
    refine HE.out.mono ?_
    rintro x w4 ⟨rfl, rfl⟩
    go_wp2_with fail
    go_ret2
    exact FIN.out

set_option maxRecDepth 200000 in
theorem checkPub_nm (pp q pn pr n m e : Nat) (w : World) (hp : Pub w pp q pn pr n m e) (ho : m % 2 = 1) (he0 : 2 ≤ e) (heo : e % 2 = 1) (he : e ≤ 2147483647) (hm : bitLen m < 2048) :
    Calls Try.prog 38 #[.pointer (some ⟨pp, 0, none⟩)] w fun x w' => x = .returned (.tuple #[.bool false, .nilIface]) ∧ Kept NoBlk w w' := by
  obtain ⟨c1, c2⟩ := hp.cells
  have hn1 := hp.md.2.1
  have HN := Lib.hid (modNat_nm q pn pr n m w hp.md)
  have HP := Lib.hid hp
  have hand := and_one_i64 e (by omega)
  rw [heo] at hand
  have HO := Lib.hid ho
  obtain ⟨bl, hbl⟩ : ∃ bl, bitLen m = bl := ⟨_, rfl⟩
  have HBL := Lib.hid hbl
  rw [hbl] at hm
  have hmi : (bl : Int) < 2048 := by omega
  clear hp heo ho hbl hm
  go_enter Try.func38, Try.ntmps38
  go_wp2_with fail
  refine HN.out.mono ?_
  rintro x w1 ⟨rfl, h1, k1⟩
  have hod := isOdd_nm (w.heap.size + 1) n m w1 h1 hn1
  rw [HO.out] at hod
  have HOD := Lib.hid hod
  have hp1 := HP.out.still k1
  obtain ⟨d1, d2⟩ := hp1.cells
  have hbl := bitLen_md q pn pr n m w1 hp1.md
  rw [HBL.out] at hbl
  have HB := Lib.hid hbl
  have K1 := Lib.hid k1
  clear h1 k1 hod hp1 hbl HN c1 c2
  go_wp2_with fail
  refine HOD.out.mono ?_
  rintro x w' ⟨rfl, rfl⟩
  clear HOD
  go_wp2_with fail
  refine HB.out.mono ?_
  rintro x w' ⟨rfl, rfl⟩
  go_wp2_with fail
  refine HB.out.mono ?_
  rintro x w' ⟨rfl, rfl⟩
  clear HB
  rcases Nat.mod_two_eq_zero_or_one bl with hb2 | hb2 <;> rcases Nat.lt_or_ge 65536 e with h65 | h65
  all_goals
    have hb2i : (bl : Int).tmod 2 = ((bl % 2 : Nat) : Int) := by rw [Int.tmod_eq_emod_of_nonneg (by omega)]; simp
    rw [hb2] at hb2i
    have hb2j : (bl : Int) % 2 = ((bl % 2 : Nat) : Int) := by simp
    rw [hb2] at hb2j
    have e1 : ¬ (e : Int) < 2 := by omega
    have e2 : ¬ (2147483647 : Int) < (e : Int) := by omega
    first
      | have e3 : ¬ (e : Int) ≤ 65536 := by omega
      | have e3 : (e : Int) ≤ 65536 := by omega
    clear hb2 he h65 he0
    go_wp2_with fail
    go_ret2
    exact ⟨rfl, K1.out⟩

end Go.Proofs.Ytmheoenieaemmaa
