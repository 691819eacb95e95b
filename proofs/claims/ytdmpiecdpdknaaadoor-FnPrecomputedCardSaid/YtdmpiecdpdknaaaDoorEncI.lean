/-
  rsa.Encrypt, impl.Encrypt.
-/
import Derived.Test.YtdmpiecdpdknaaaDoorPubl
namespace Go.Proofs.YtdmpiecdpdknaaaDoor
open Go.RowKit

theorem rsaEncrypt_nm (pp q pn pr n m e : Nat) (A : Option Addr) (cap : Nat) (bs : List UInt8) (w : World) (hp : Pub w pp q pn pr n m e) (ho : m % 2 = 1) (he0 : 2 ≤ e) (heo : e % 2 = 1) (he : e ≤ 2147483647) (hm : bitLen m < 2048) (hb : BytesAt w A bs) (hc : bs.length ≤ cap) (hL : bs.length ≤ 4294967296) :
    Calls Tryd.prog 27 #[.pointer (some ⟨pp, 0, none⟩), .slice A bs.length cap] w (Encr n m e bs w) := by
  have HC := Lib.hid (checkPub_nm pp q pn pr n m e w hp ho he0 heo he hm)
  have HE : Hid (∀ w', Kept NoBlk w w' → Calls Tryd.prog 46 #[.pointer (some ⟨pp, 0, none⟩), .slice A bs.length cap] w' (Encr n m e bs w')) :=
    Lib.hid (fun w' k => encrypt_nm pp q pn pr n m e A cap bs w' (hp.still k) ho (by omega) (by omega) (hb.still k) hc hL)
  clear hp hb ho heo he hm he0
  go_enter Tryd.func27, Tryd.ntmps27
  go_wp2_with fail
  refine HC.out.mono ?_
  rintro x w1 ⟨rfl, k1⟩
  have HE1 := Lib.hid (HE.out w1 k1)
  have K1 := Lib.hid k1
  clear k1 HC HE
  go_wp2_with fail
  refine HE1.out.mono ?_
  intro x w2 h
  rcases h with ⟨a1, a2, g, rfl, a3, a4, a5⟩ | ⟨a1, a, rfl, a2⟩
  · have H : Hid (Encr n m e bs w (.returned (.tuple #[.slice (some ⟨g, 0, none⟩) ((bitLen m + 7) / 8) ((bitLen m + 7) / 8), .nilIface])) w2) := Lib.hid (.inl ⟨a1, a2, g, rfl, Nat.le_trans K1.out.size a3, a4, K1.out.none a5⟩)
    clear HE1 a1 a2 a3 a4 a5
    go_wp2_with fail
    go_ret2
    exact H.out
  · have H : Hid (Encr n m e bs w (.returned (.tuple #[.slice none 0 0, .iface 109 (.pointer (some a))])) w2) := Lib.hid (.inr ⟨a1, a, rfl, K1.out.none a2⟩)
    clear HE1 a1 a2
    go_wp2_with fail
    go_ret2
    exact H.out

theorem implEncrypt_any (A B' : Option Addr) (cap cap' e : Nat) (bs xs : List UInt8) (w : World) (hb : BytesAt w A bs) (hL : bs.length ≤ 255) (h1 : 1 < num bs) (ho : num bs % 2 = 1) (he0 : 2 ≤ e) (heo : e % 2 = 1) (he : e ≤ 2147483647)
    (hx : BytesAt w B' xs) (hxl : xs.length ≤ (bitLen (num bs) + 7) / 8) :
    Calls Tryd.prog 12 #[.slice A bs.length cap, .int .i64 (e : Int), .slice B' xs.length cap'] w (PubOut (num bs) e xs w) := by
  have hb2040 := bitLen_bytes bs 255 hL
  have hbl : (bitLen (num bs) + 7) / 8 ≤ 256 := by omega
  have hbm : bitLen (num bs) < 2048 := by omega
  have HP := Lib.hid (public_any A cap e bs w hb (by omega) h1)
  have HX := Lib.hid hx
  clear hb hx hb2040
  obtain ⟨m, hm⟩ : ∃ m, num bs = m := ⟨_, rfl⟩
  rw [hm] at HP hxl hbl hbm ho ⊢
  have HO := Lib.hid ho
  have HBM := Lib.hid hbm
  have HE2 := Lib.hid he
  have HE0 := Lib.hid he0
  have HEO := Lib.hid heo
  clear hm h1 ho hbm he he0 heo
  go_enter Tryd.func12, Tryd.ntmps12
  go_wp2_with fail
  refine HP.out.mono ?_
  rintro x w1 ⟨pp, q, pn, pr, n, rfl, hP, k1⟩
  have HPU := Lib.hid hP
  have K1 := Lib.hid k1
  have HC := Lib.hid (copied_any w1 B' cap' xs (HX.out.still k1) (by omega))
  have hn8 := hP.md.bytes_le
  clear hP k1 HP
  go_wp2_with fail
  refine HC.out.mono ?_
  rintro x w2 ⟨v, rfl, hown, k2⟩
  obtain ⟨A1, c1, rfl, hc1, _, hat1, _⟩ := own_form hown
  have HZ := Lib.hid (rsaEncrypt_nm pp q pn pr n m e A1 c1 xs w2 (HPU.out.still k2) HO.out HE0.out HEO.out HE2.out HBM.out hat1 hc1 (by omega))
  have K2 := Lib.hid (K1.out.none k2)
  clear hown k2 hat1 HC
  go_wp2_with fail
  refine HZ.out.mono ?_
  intro x w3 h
  rcases h with ⟨a1, a2, g, rfl, a3, a4, a5⟩ | ⟨a1, a, rfl, a2⟩
  · have hei := either_ok (some ⟨g, 0, none⟩) ((bitLen m + 7) / 8) (enc ((bitLen m + 7) / 8) (num xs ^ e % m)) w3 a4.bytes (by rw [enc_length]; omega)
    rw [enc_length] at hei
    have HE := Lib.hid hei
    have A1' := Lib.hid a1
    have K3 := Lib.hid (K2.out.none a5)
    clear hei a1 a2 a3 a4 a5 HZ
    go_wp2_with fail
    refine HE.out.mono ?_
    rintro x w4 ⟨v, rfl, hown, k4⟩
    have hown' : w4.ownsRow w3.heap.size 5 1 v (enc ((bitLen m + 7) / 8) (num xs ^ e % m)).length ((enc ((bitLen m + 7) / 8) (num xs ^ e % m)).map B) := by rw [enc_length]; exact hown
    obtain ⟨A4, c4, rfl, hc4, _, hat4, hg4⟩ := own_form hown'
    have hfin : PubOut m e xs w (.returned (.tuple #[.slice A4 (enc ((bitLen m + 7) / 8) (num xs ^ e % m)).length c4, .bool true])) w4 :=
      .inl ⟨A1'.out, A4, c4, rfl, hat4, hc4, fun h => by
        obtain ⟨g, e1, e2, _⟩ := hg4 (by rw [enc_length]; exact h)
        exact ⟨g, e1, Nat.le_trans K3.out.size e2⟩, K3.out.none k4⟩
    have FIN := Lib.hid hfin
    clear hfin hown hown' hat4 k4 HE hg4
    go_wp2_with fail
    go_ret2
    exact FIN.out
  · have HE := Lib.hid (either_err (.slice none 0 0) a w3)
    have hfin : PubOut m e xs w (.returned (.tuple #[.slice none 0 0, .bool false])) w3 := .inr ⟨by rcases a1 with h | h; exact h; omega, rfl, K2.out.none a2⟩
    have FIN := Lib.hid hfin
    clear hfin a1 a2 HZ
    go_wp2_with fail
    refine HE.out.mono ?_
    rintro x w4 ⟨rfl, rfl⟩
    go_wp2_with fail
    go_ret2
    exact FIN.out

end Go.Proofs.YtdmpiecdpdknaaaDoor
