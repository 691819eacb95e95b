/-
  rsa.Encrypt, impl.Encrypt; the walks of FnPublic and FnEncrypt.
-/
import Derived.Test.YtmheoenieaemmaaPubLaw
namespace Go.Proofs.Ytmheoenieaemmaa
open Go.RowKit

theorem rsaEncrypt_nm (pp q pn pr n m e : Nat) (A : Option Addr) (cap : Nat) (bs : List UInt8) (w : World) (hp : Pub w pp q pn pr n m e) (ho : m % 2 = 1) (he0 : 2 ≤ e) (heo : e % 2 = 1) (he : e ≤ 2147483647) (hm : bitLen m < 2048) (hb : BytesAt w A bs) (hc : bs.length ≤ cap) (hL : bs.length ≤ 4294967296) :
    Calls Try.prog 28 #[.pointer (some ⟨pp, 0, none⟩), .slice A bs.length cap] w (Encr n m e bs w) := by
  have HC := Lib.hid (checkPub_nm pp q pn pr n m e w hp ho he0 heo he hm)
  have HE : Hid (∀ w', Kept NoBlk w w' → Calls Try.prog 36 #[.pointer (some ⟨pp, 0, none⟩), .slice A bs.length cap] w' (Encr n m e bs w')) :=
    Lib.hid (fun w' k => encrypt_nm pp q pn pr n m e A cap bs w' (hp.still k) ho (by omega) (by omega) (hb.still k) hc hL)
  clear hp hb ho heo he hm he0
  go_enter Try.func28, Try.ntmps28
  go_wp2_with fail
  refine HC.out.mono ?_
  rintro x w1 ⟨rfl, k1⟩
  have HE1 := Lib.hid (HE.out w1 k1)
  have K1 := Lib.hid k1
  clear k1 HC HE
  go_wp2_with fail
  refine HE1.out.mono ?_
  intro x w2 h
  rcases h with ⟨a1, a2, g, rfl, a3, a4, a5⟩ | ⟨a1, a, rfl, a2⟩
  · have H : Hid (Encr n m e bs w (.returned (.tuple #[.slice (some ⟨g, 0, none⟩) ((bitLen m + 7) / 8) ((bitLen m + 7) / 8), .nilIface])) w2) := Lib.hid (.inl ⟨a1, a2, g, rfl, Nat.le_trans K1.out.size a3, a4, K1.out.none a5⟩)
    clear HE1 a1 a2 a3 a4 a5
    go_wp2_with fail
    go_ret2
    exact H.out
  · have H : Hid (Encr n m e bs w (.returned (.tuple #[.slice none 0 0, .iface 99 (.pointer (some a))])) w2) := Lib.hid (.inr ⟨a1, a, rfl, K1.out.none a2⟩)
    clear HE1 a1 a2
    go_wp2_with fail
    go_ret2
    exact H.out

theorem implEncrypt_any (A B' : Option Addr) (cap cap' e : Nat) (bs xs : List UInt8) (w : World) (hb : BytesAt w A bs) (hL : bs.length ≤ 255) (h1 : 1 < num bs) (ho : num bs % 2 = 1) (he0 : 2 ≤ e) (heo : e % 2 = 1) (he : e ≤ 2147483647)
    (hx : BytesAt w B' xs) (hxl : xs.length ≤ (bitLen (num bs) + 7) / 8) :
    Calls Try.prog 15 #[.slice A bs.length cap, .int .i64 (e : Int), .slice B' xs.length cap'] w (PubOut (num bs) e xs w) := by
  have hb2040 := bitLen_bytes bs 255 hL
  have hbl : (bitLen (num bs) + 7) / 8 ≤ 256 := by omega
  have hbm : bitLen (num bs) < 2048 := by omega
  have HP := Lib.hid (public_any A cap e bs w hb (by omega) h1)
  have HX := Lib.hid hx
  clear hb hx hb2040
  obtain ⟨m, hm⟩ : ∃ m, num bs = m := ⟨_, rfl⟩
  rw [hm] at HP hxl hbl hbm ho ⊢
  have HO := Lib.hid ho
  have HBM := Lib.hid hbm
  have HE2 := Lib.hid he
  have HE0 := Lib.hid he0
  have HEO := Lib.hid heo
  clear hm h1 ho hbm he he0 heo
  go_enter Try.func15, Try.ntmps15
  go_wp2_with fail
  refine HP.out.mono ?_
  rintro x w1 ⟨pp, q, pn, pr, n, rfl, hP, k1⟩
  have HPU := Lib.hid hP
  have K1 := Lib.hid k1
  have HC := Lib.hid (copied_any w1 B' cap' xs (HX.out.still k1) (by omega))
  have hn8 := hP.md.bytes_le
  clear hP k1 HP
  go_wp2_with fail
  refine HC.out.mono ?_
  rintro x w2 ⟨v, rfl, hown, k2⟩
  obtain ⟨A1, c1, rfl, hc1, _, hat1, _⟩ := own_form hown
  have HZ := Lib.hid (rsaEncrypt_nm pp q pn pr n m e A1 c1 xs w2 (HPU.out.still k2) HO.out HE0.out HEO.out HE2.out HBM.out hat1 hc1 (by omega))
  have K2 := Lib.hid (K1.out.none k2)
  clear hown k2 hat1 HC
  go_wp2_with fail
  refine HZ.out.mono ?_
  intro x w3 h
  rcases h with ⟨a1, a2, g, rfl, a3, a4, a5⟩ | ⟨a1, a, rfl, a2⟩
  · have hei := either_ok (some ⟨g, 0, none⟩) ((bitLen m + 7) / 8) (enc ((bitLen m + 7) / 8) (num xs ^ e % m)) w3 a4.bytes (by rw [enc_length]; omega)
    rw [enc_length] at hei
    have HE := Lib.hid hei
    have A1' := Lib.hid a1
    have K3 := Lib.hid (K2.out.none a5)
    clear hei a1 a2 a3 a4 a5 HZ
    go_wp2_with fail
    refine HE.out.mono ?_
    rintro x w4 ⟨v, rfl, hown, k4⟩
    have hown' : w4.ownsRow w3.heap.size 5 1 v (enc ((bitLen m + 7) / 8) (num xs ^ e % m)).length ((enc ((bitLen m + 7) / 8) (num xs ^ e % m)).map B) := by rw [enc_length]; exact hown
    obtain ⟨A4, c4, rfl, hc4, _, hat4, hg4⟩ := own_form hown'
    have hfin : PubOut m e xs w (.returned (.tuple #[.slice A4 (enc ((bitLen m + 7) / 8) (num xs ^ e % m)).length c4, .bool true])) w4 :=
      .inl ⟨A1'.out, A4, c4, rfl, hat4, hc4, fun h => by
        obtain ⟨g, e1, e2, _⟩ := hg4 (by rw [enc_length]; exact h)
        exact ⟨g, e1, Nat.le_trans K3.out.size e2⟩, K3.out.none k4⟩
    have FIN := Lib.hid hfin
    clear hfin hown hown' hat4 k4 HE hg4
    go_wp2_with fail
    go_ret2
    exact FIN.out
  · have HE := Lib.hid (either_err (.slice none 0 0) a w3)
    have hfin : PubOut m e xs w (.returned (.tuple #[.slice none 0 0, .bool false])) w3 := .inr ⟨by rcases a1 with h | h; exact h; omega, rfl, K2.out.none a2⟩
    have FIN := Lib.hid hfin
    clear hfin a1 a2 HZ
    go_wp2_with fail
    refine HE.out.mono ?_
    rintro x w4 ⟨rfl, rfl⟩
    go_wp2_with fail
    go_ret2
    exact FIN.out

theorem fnEncrypt_walk (a : Int) (D : Option Addr) (cap : Nat) (dig : List UInt8) (w : World) (ha0 : 0 ≤ a) (ha1 : a ≤ 255) (hd : BytesAt w D dig) (_hc : dig.length ≤ cap) (_hm : cap ≤ maxLen) :
    Calls Try.prog 5 #[.int .u8 a, .slice D dig.length cap] w fun e w' => e = .returned (.bool true) ∧ Kept NoBlk w w' := by
  unfold maxLen at _hm
  by_cases h1 : 2147483647 < dig.length
  · go_enter Try.func5, Try.ntmps5
    go_wp2_with fail
    go_ret
    exact ⟨rfl, Kept.refl _ _⟩
  have hbey := beyond_any w.heap.size [dig.length] (w.alloc (.cells #[.int .i64 dig.length] 3))
    (at_new w 3 ([dig.length].map fun (n : Nat) => Value.int .i64 (n : Int))) (by simp)
  by_cases h2 : 1048576 < dig.length
  · rw [show ([dig.length].any fun n => decide (1048576 < n)) = true by simpa using h2] at hbey
    have HB := Lib.hid hbey
    clear hbey
    go_enter Try.func5, Try.ntmps5
    go_wp2_with fail
    refine HB.out.mono ?_
    rintro e w' ⟨rfl, rfl⟩
    go_wp2_with fail
    go_ret
    exact ⟨rfl, (Kept.refl _ _).alloc _⟩
  rw [show ([dig.length].any fun n => decide (1048576 < n)) = false by simp; omega] at hbey
  have HB := Lib.hid hbey
  clear hbey
  obtain ⟨k, rfl⟩ := Int.eq_ofNat_of_zero_le ha0
  have hk : k < 256 := by omega
  have HD := Lib.hid hd
  have hlen := duo_len k hk
  have HMOD := Lib.hid (fun w => modulus_spec k hk w)
  obtain ⟨m, hm⟩ : ∃ m, Mp (e1 k) * Mp (e2 k) = m := ⟨_, rfl⟩
  rw [hm] at hlen HMOD
  obtain ⟨hl1, hl2, hm1, hmo⟩ := hlen
  obtain ⟨L, hL⟩ : ∃ L, (bitLen m + 7) / 8 = L := ⟨_, rfl⟩
  rw [hL] at hl1 hl2
  have HLL := Lib.hid hl1
  have HLB := Lib.hid hL
  have HMO := Lib.hid hmo
  clear hd hl1 hL hmo hm
  go_enter Try.func5, Try.ntmps5
  go_wp2_with fail
  refine HB.out.mono ?_
  rintro e w' ⟨rfl, rfl⟩
  clear HB
  go_wp2_with fail
  refine (HMOD.out _).mono ?_
  rintro e w1 ⟨A1, c1, rfl, hat1, hc1, k1⟩
  rw [HLL.out] at hc1 ⊢
  have K1 := Lib.hid (((Kept.refl NoBlk w).alloc (.cells #[.int .i64 dig.length] 3)).none k1)
  have HN := Lib.hid hat1
  have HBE := Lib.hid (below_any w1 D A1 cap c1 m L dig (HD.out.still K1.out) hat1 HLL.out _hc hc1 (by omega) (by omega) (by omega))
  clear hat1 k1 HMOD
  go_wp2_with fail
  refine HBE.out.mono ?_
  rintro e w2 ⟨v, g2, hv, rfl, hg2, hb2, k2⟩
  have HV := Lib.hid hv
  have K2 := Lib.hid (K1.out.none k2)
  have HN2 := Lib.hid (HN.out.still k2)
  have HB2 := Lib.hid hb2.bytes
  have hvp : num (enc L v) = v := num_enc_of_lt (Nat.lt_trans hv (by have := encT_lt m; rw [HLL.out] at this; exact this))
  have hp := implEncrypt_any A1 (some ⟨g2, 0, none⟩) c1 L 65537 (encT m) (enc L v) w2 (HN.out.still k2) (by rw [HLL.out]; omega) (by rw [num_encT]; exact hm1) (by rw [num_encT]; exact HMO.out) (by decide) (by decide) (by decide) hb2.bytes (by rw [num_encT, HLB.out, enc_length]; exact Nat.le_refl _)
  rw [HLL.out, enc_length, num_encT] at hp
  unfold PubOut at hp
  rw [HLB.out, hvp, enc_length] at hp
  have HP := Lib.hid hp
  have hpw := power_any w2 (some ⟨g2, 0, none⟩) A1 L c1 L 65537 (enc L v) (encT m) hb2.bytes (HN.out.still k2) (by rw [enc_length]; exact Nat.le_refl _) (by rw [enc_length]; omega) HLL.out (by omega) hc1 (by decide) (by rw [num_encT]; exact hm1) (by rw [num_encT, hvp]; exact hv)
  clear hpw
  have HPW : Hid (∀ w', Kept NoBlk w2 w' → Calls Try.prog 13 #[.slice (some ⟨g2, 0, none⟩) L L, .int .i64 (65537 : Nat), .slice A1 L c1] w' (MadeB (enc L (v ^ 65537 % m)) w')) := Lib.hid (fun w' k => by
    have hpw := power_any w' (some ⟨g2, 0, none⟩) A1 L c1 L 65537 (enc L v) (encT m) (HB2.out.still k) (HN2.out.still k) (by rw [enc_length]; exact Nat.le_refl _) (by rw [enc_length]; omega) HLL.out (by omega) hc1 (by decide) (by rw [num_encT]; exact hm1) (by rw [num_encT, hvp]; exact HV.out)
    rw [hvp, num_encT, enc_length] at hpw
    exact hpw)
  have HMP := Lib.hid (show 0 < m by omega)
  clear hv k2 hb2 hvp hp HBE
  go_wp2_with fail
  refine HP.out.mono ?_
  rintro e w3 (⟨_, A3, c3, rfl, hb3, _, _, k3⟩ | ⟨hbad, _⟩)
  · have K3 := Lib.hid (K2.out.none k3)
    have HB3 := Lib.hid hb3
    have HPW3 := Lib.hid (HPW.out w3 k3)
    clear hb3 k3 HP HPW
    go_wp2_with fail
    refine HPW3.out.mono ?_
    rintro e w4 ⟨g4, rfl, _, hb4, k4⟩
    rw [enc_length]
    have hsame := same_any w4 A3 (some ⟨g4, 0, none⟩) c3 L _ _ (HB3.out.still k4) hb4.bytes
    rw [beq_self_eq_true, enc_length] at hsame
    have HS := Lib.hid hsame
    have K4 := Lib.hid (K3.out.none k4)
    clear hb4 k4 hsame HPW3
    go_wp2_with fail
    refine HS.out.mono ?_
    rintro e w' ⟨rfl, rfl⟩
    clear HS
    go_wp2_with fail
    go_ret
    exact ⟨rfl, K4.out⟩
  · exact absurd hbad (by have := HV.out; omega)

theorem fnPublic_walk (a a1 : Int) (D : Option Addr) (cap : Nat) (dig : List UInt8) (w : World) (ha0 : 0 ≤ a) (ha1 : a ≤ 255) (hb0 : 0 ≤ a1) (hb1 : a1 ≤ 65535) (hd : BytesAt w D dig) (_hc : dig.length ≤ cap) (_hm : cap ≤ maxLen) :
    Calls Try.prog 3 #[.int .u8 a, .int .u16 a1, .slice D dig.length cap] w fun e w' => e = .returned (.bool true) ∧ Kept NoBlk w w' := by
  unfold maxLen at _hm
  by_cases h1 : 2147483647 < dig.length
  · go_enter Try.func3, Try.ntmps3
    go_wp2_with fail
    go_ret
    exact ⟨rfl, Kept.refl _ _⟩
  have hbey := beyond_any w.heap.size [dig.length] (w.alloc (.cells #[.int .i64 dig.length] 3))
    (at_new w 3 ([dig.length].map fun (n : Nat) => Value.int .i64 (n : Int))) (by simp)
  by_cases h2 : 1048576 < dig.length
  · rw [show ([dig.length].any fun n => decide (1048576 < n)) = true by simpa using h2] at hbey
    have HB := Lib.hid hbey
    clear hbey
    go_enter Try.func3, Try.ntmps3
    go_wp2_with fail
    refine HB.out.mono ?_
    rintro e w' ⟨rfl, rfl⟩
    go_wp2_with fail
    go_ret
    exact ⟨rfl, (Kept.refl _ _).alloc _⟩
  rw [show ([dig.length].any fun n => decide (1048576 < n)) = false by simp; omega] at hbey
  have HB := Lib.hid hbey
  clear hbey
  obtain ⟨k, rfl⟩ := Int.eq_ofNat_of_zero_le ha0
  obtain ⟨u, rfl⟩ := Int.eq_ofNat_of_zero_le hb0
  have hk : k < 256 := by omega
  obtain ⟨E, hE⟩ : ∃ E, 3 + 2 * (u % 32768) = E := ⟨_, rfl⟩
  have hE1 : 3 ≤ E := by omega
  have hE2 : E ≤ 65537 := by omega
  have wt : (u : Int).tmod 32768 = (u : Int) % 32768 := Int.tmod_eq_emod_of_nonneg (by omega)
  have wE : 3 + 2 * ((u : Int) % 32768) = (E : Int) := by omega
  have wm : ((u : Int) % 32768) ≤ 32767 := by omega
  have wm0 : 0 ≤ ((u : Int) % 32768) := by omega
  have HD := Lib.hid hd
  have hlen := duo_len k hk
  have HMOD := Lib.hid (fun w => modulus_spec k hk w)
  obtain ⟨m, hm⟩ : ∃ m, Mp (e1 k) * Mp (e2 k) = m := ⟨_, rfl⟩
  rw [hm] at hlen HMOD
  obtain ⟨hl1, hl2, hm1, hmo⟩ := hlen
  obtain ⟨L, hL⟩ : ∃ L, (bitLen m + 7) / 8 = L := ⟨_, rfl⟩
  rw [hL] at hl1 hl2
  have HLL := Lib.hid hl1
  have HLB := Lib.hid hL
  have HMO := Lib.hid hmo
  clear hd hl1 hL hmo hm hE
  go_enter Try.func3, Try.ntmps3
  go_wp2_with fail
  refine HB.out.mono ?_
  rintro e w' ⟨rfl, rfl⟩
  clear HB
  go_wp2_with fail
  refine (HMOD.out _).mono ?_
  rintro e w1 ⟨A1, c1, rfl, hat1, hc1, k1⟩
  rw [HLL.out] at hc1 ⊢
  have K1 := Lib.hid (((Kept.refl NoBlk w).alloc (.cells #[.int .i64 dig.length] 3)).none k1)
  have HN := Lib.hid hat1
  have HBE := Lib.hid (wide_any w1 D cap L dig (HD.out.still K1.out) _hc (by omega) (by omega))
  obtain ⟨v0, hv0⟩ : ∃ v0, num dig = v0 := ⟨_, rfl⟩
  rw [hv0] at HBE
  clear hat1 k1 HMOD hv0
  go_wp2_with fail
  refine HBE.out.mono ?_
  rintro e w2 ⟨g2, rfl, hg2, hb2, k2⟩
  rw [enc_length]
  have K2 := Lib.hid (K1.out.none k2)
  have HN2 := Lib.hid (HN.out.still k2)
  have HB2 := Lib.hid hb2.bytes
  obtain ⟨v, hv⟩ : ∃ v, num (enc L v0) = v := ⟨_, rfl⟩
  have HV := Lib.hid hv
  have hp := implPublic_any A1 (some ⟨g2, 0, none⟩) c1 L E (encT m) (enc L v0) w2 (HN.out.still k2) (by rw [HLL.out]; omega) (by rw [num_encT]; exact hm1) (by rw [num_encT]; exact HMO.out) (by omega) (by omega) hb2.bytes (by rw [num_encT, HLB.out, enc_length]; exact Nat.le_refl _)
  rw [HLL.out, enc_length, num_encT] at hp
  unfold PubOut at hp
  rw [HLB.out, hv, enc_length] at hp
  have HP := Lib.hid hp
  have HLS : Hid (∀ w', Kept NoBlk w2 w' → Calls Try.prog 11 #[.slice (some ⟨g2, 0, none⟩) L L, .slice A1 L c1] w' fun e w'' => e = .returned (.bool (decide (v < m))) ∧ Kept NoBlk w' w'') := Lib.hid (fun w' k => by
    have h := less_any w' (some ⟨g2, 0, none⟩) A1 L c1 (enc L v0) (encT m) (HB2.out.still k) (HN2.out.still k) (by rw [enc_length]; exact Nat.le_refl _) (by rw [HLL.out]; exact hc1) (by rw [enc_length]; omega) (by rw [HLL.out]; omega)
    rw [enc_length, HLL.out, num_encT, HV.out] at h
    exact h)
  have HPW : Hid (∀ w', v < m → Kept NoBlk w2 w' → Calls Try.prog 13 #[.slice (some ⟨g2, 0, none⟩) L L, .int .i64 (E : Int), .slice A1 L c1] w' (MadeB (enc L (v ^ E % m)) w')) := Lib.hid (fun w' hlt k => by
    have hpw := power_any w' (some ⟨g2, 0, none⟩) A1 L c1 L E (enc L v0) (encT m) (HB2.out.still k) (HN2.out.still k) (by rw [enc_length]; exact Nat.le_refl _) (by rw [enc_length]; omega) HLL.out (by omega) hc1 (by omega) (by rw [num_encT]; exact hm1) (by rw [num_encT, HV.out]; exact hlt)
    rw [HV.out, num_encT, enc_length] at hpw
    exact hpw)
  clear k2 hb2 hp HBE hv
  go_wp2_with fail
  refine HP.out.mono ?_
  rintro e w3 (⟨hlt, A3, c3, rfl, hb3, _, _, k3⟩ | ⟨hbad, rfl, k3⟩)
  · have K3 := Lib.hid (K2.out.none k3)
    have HB3 := Lib.hid hb3
    have hls := HLS.out w3 k3
    rw [decide_eq_true hlt] at hls
    have HLS3 := Lib.hid hls
    have HPW3 : Hid (∀ w', Kept NoBlk w3 w' → _) := Lib.hid (fun w' k => HPW.out w' hlt (k3.none k))
    clear hb3 k3 HP HPW hlt hls HLS
    go_wp2_with fail
    refine HLS3.out.mono ?_
    rintro e w4 ⟨rfl, k4⟩
    have HPW4 := Lib.hid (HPW3.out w4 k4)
    have K4 := Lib.hid (K3.out.none k4)
    have HB4 := Lib.hid (HB3.out.still k4)
    clear k4 HLS3 HPW3
    go_wp2_with fail
    refine HPW4.out.mono ?_
    rintro e w5 ⟨g5, rfl, _, hb5, k5⟩
    rw [enc_length]
    have hsame := same_any w5 A3 (some ⟨g5, 0, none⟩) c3 L _ _ (HB4.out.still k5) hb5.bytes
    rw [beq_self_eq_true, enc_length] at hsame
    have HS := Lib.hid hsame
    have K5 := Lib.hid (K4.out.none k5)
    clear hb5 k5 hsame HPW4
    go_wp2_with fail
    refine HS.out.mono ?_
    rintro e w' ⟨rfl, rfl⟩
    clear HS
    go_wp2_with fail
    go_ret
    exact ⟨rfl, K5.out⟩
  · have K3 := Lib.hid (K2.out.none k3)
    have hls := HLS.out w3 k3
    rw [decide_eq_false (by omega)] at hls
    have HLS3 := Lib.hid hls
    clear k3 HP HPW hls HLS hbad
    go_wp2_with fail
    refine HLS3.out.mono ?_
    rintro e w4 ⟨rfl, k4⟩
    have K4 := Lib.hid (K3.out.none k4)
    clear k4 HLS3
    go_wp2_with fail
    go_ret
    exact ⟨rfl, K4.out⟩

end Go.Proofs.Ytmheoenieaemmaa
