/-
  ZZPublic, impl.Public.
-/
import Derived.Test.YtdmpiecdpdknaaaGreatDoorPubl
namespace Go.Proofs.YtdmpiecdpdknaaaGreatDoor
open Go.RowKit

theorem zzPublic_nm (pp q pn pr n m e : Nat) (A : Option Addr) (cap : Nat) (bs : List UInt8) (w : World) (hp : Pub w pp q pn pr n m e) (ho : m % 2 = 1) (he0 : 0 < e) (he : e < 9223372036854775808) (hb : BytesAt w A bs) (hc : bs.length ≤ cap) (hL : bs.length ≤ 4294967296) :
    Calls Tryz.prog 23 #[.pointer (some ⟨pp, 0, none⟩), .slice A bs.length cap] w (Encr n m e bs w) := by
  have HE := Lib.hid (encrypt_nm pp q pn pr n m e A cap bs w hp ho he0 he hb hc hL)
  clear hp hb
  go_enter Tryz.func23, Tryz.ntmps23
  go_wp2_with fail
  refine HE.out.mono ?_
  intro x w1 h
  have H := Lib.hid h
  rcases h with ⟨a1, a2, g, rfl, a3, a4, a5⟩ | ⟨a1, a, rfl, a2⟩
  all_goals
    clear HE
    go_wp2_with fail
    go_ret2
    exact H.out

theorem implPublic_any (A B' : Option Addr) (cap cap' e : Nat) (bs xs : List UInt8) (w : World) (hb : BytesAt w A bs) (hL : bs.length ≤ 256) (h1 : 1 < num bs) (ho : num bs % 2 = 1) (he0 : 0 < e) (he : e < 9223372036854775808)
    (hx : BytesAt w B' xs) (hxl : xs.length ≤ (bitLen (num bs) + 7) / 8) :
    Calls Tryz.prog 11 #[.slice A bs.length cap, .int .i64 (e : Int), .slice B' xs.length cap'] w (PubOut (num bs) e xs w) := by
  have hbl : (bitLen (num bs) + 7) / 8 ≤ 256 := by
    have := bitLen_bytes bs 256 hL
    omega
  have HP := Lib.hid (public_any A cap e bs w hb hL h1)
  have HX := Lib.hid hx
  clear hb hx
  obtain ⟨m, hm⟩ : ∃ m, num bs = m := ⟨_, rfl⟩
  rw [hm] at HP hxl hbl ho ⊢
  clear hm h1
  go_enter Tryz.func11, Tryz.ntmps11
  go_wp2_with fail
  refine HP.out.mono ?_
  rintro x w1 ⟨pp, q, pn, pr, n, rfl, hP, k1⟩
  have HPU := Lib.hid hP
  have K1 := Lib.hid k1
  have HC := Lib.hid (copied_any w1 B' cap' xs (HX.out.still k1) (by omega))
  have hn8 := hP.md.bytes_le
  clear hP k1 HP
  go_wp2_with fail
  refine HC.out.mono ?_
  rintro x w2 ⟨v, rfl, hown, k2⟩
  obtain ⟨A1, c1, rfl, hc1, _, hat1, _⟩ := own_form hown
  have HZ := Lib.hid (zzPublic_nm pp q pn pr n m e A1 c1 xs w2 (HPU.out.still k2) ho he0 he hat1 hc1 (by omega))
  have K2 := Lib.hid (K1.out.none k2)
  clear hown k2 hat1 HC
  go_wp2_with fail
  refine HZ.out.mono ?_
  intro x w3 h
  rcases h with ⟨a1, a2, g, rfl, a3, a4, a5⟩ | ⟨a1, a, rfl, a2⟩
  · have hei := either_ok (some ⟨g, 0, none⟩) ((bitLen m + 7) / 8) (enc ((bitLen m + 7) / 8) (num xs ^ e % m)) w3 a4.bytes (by rw [enc_length]; omega)
    rw [enc_length] at hei
    have HE := Lib.hid hei
    have A1' := Lib.hid a1
    have K3 := Lib.hid (K2.out.none a5)
    clear hei a1 a2 a3 a4 a5 HZ
    go_wp2_with fail
    refine HE.out.mono ?_
    rintro x w4 ⟨v, rfl, hown, k4⟩
    have hown' : w4.ownsRow w3.heap.size 5 1 v (enc ((bitLen m + 7) / 8) (num xs ^ e % m)).length ((enc ((bitLen m + 7) / 8) (num xs ^ e % m)).map B) := by rw [enc_length]; exact hown
    obtain ⟨A4, c4, rfl, hc4, _, hat4, hg4⟩ := own_form hown'
    have hfin : PubOut m e xs w (.returned (.tuple #[.slice A4 (enc ((bitLen m + 7) / 8) (num xs ^ e % m)).length c4, .bool true])) w4 :=
      .inl ⟨A1'.out, A4, c4, rfl, hat4, hc4, fun h => by
        obtain ⟨g, e1, e2, _⟩ := hg4 (by rw [enc_length]; exact h)
        exact ⟨g, e1, Nat.le_trans K3.out.size e2⟩, K3.out.none k4⟩
    have FIN := Lib.hid hfin
    clear hfin hown hown' hat4 k4 HE hg4
    go_wp2_with fail
    go_ret2
    exact FIN.out
  · have HE := Lib.hid (either_err (.slice none 0 0) a w3)
    have hfin : PubOut m e xs w (.returned (.tuple #[.slice none 0 0, .bool false])) w3 := .inr ⟨by rcases a1 with h | h; exact h; omega, rfl, K2.out.none a2⟩
    have FIN := Lib.hid hfin
    clear hfin a1 a2 HZ
    go_wp2_with fail
    refine HE.out.mono ?_
    rintro x w4 ⟨rfl, rfl⟩
    go_wp2_with fail
    go_ret2
    exact FIN.out

end Go.Proofs.YtdmpiecdpdknaaaGreatDoor
