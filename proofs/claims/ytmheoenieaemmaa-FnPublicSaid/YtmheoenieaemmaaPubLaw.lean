/-
  laws.below, the walks of FnPublic, FnTimes, FnEncrypt.
-/
import Derived.Test.YtmheoenieaemmaaPubl
import Derived.Test.YtmheoenieaemmaaSpecN4
import Derived.Test.YtmheoenieaemmaaBeyond
namespace Go.Proofs.Ytmheoenieaemmaa
open Go.RowKit

theorem w64p (n : Int) (h : -9223372036854775808 ≤ n ∧ n ≤ 9223372036854775807) : wrap64 n = n := by unfold wrap64; omega

theorem encT_pos {m : Nat} (h : 0 < m) : 0 < (encT m).length := by
  rcases Nat.eq_zero_or_pos (encT m).length with h0 | h0
  · have := (encT_len m 0).1 (by omega)
    rw [Pb_zero] at this; omega
  · exact h0
theorem encT_low {m : Nat} (h : 0 < m) : Pb ((encT m).length - 1) ≤ m := by
  have h1 := encT_pos h
  apply Classical.byContradiction
  intro hc
  have := (encT_len m ((encT m).length - 1)).2 (by omega)
  omega
theorem encT_lt (m : Nat) : m < Pb (encT m).length := (encT_len m _).1 (Nat.le_refl _)

/-- A number below m, in so many bytes. -/
def Below_ (L m : Nat) (w : World) (e : Ending) (w' : World) : Prop := ∃ v g, v < m ∧ e = .returned (.slice (some ⟨g, 0, none⟩) L L) ∧ w.heap.size ≤ g ∧ Blk w' g 5 ((enc L v).map B).toArray ∧ Kept NoBlk w w'

theorem below_any (w : World) (A A' : Option Addr) (c c' m L : Nat) (xs : List UInt8) (hx : BytesAt w A xs) (hm : BytesAt w A' (encT m)) (hL : (encT m).length = L) (hxc : xs.length ≤ c) (hmc : L ≤ c') (hxl : xs.length ≤ 1048576) (hl : L ≤ 100000) (hm0 : 0 < m) :
    Calls Try.prog 14 #[.slice A xs.length c, .slice A' L c'] w (Below_ L m w) := by
  have HW := Lib.hid (wide_any w A c L xs hx hxc hxl (by omega))
  have HM := Lib.hid hm
  have hL1 : 0 < L := by rw [← hL]; exact encT_pos hm0
  have hlow : Pb (L - 1) ≤ m := by rw [← hL]; exact encT_low hm0
  have HL := Lib.hid hL
  clear hx hm hL
  go_enter Try.func14, Try.ntmps14
  go_wp2_with fail
  refine HW.out.mono ?_
  rintro e w1 ⟨g, rfl, hg, hb, hk⟩
  rw [enc_length]
  have hle := less_any w1 (some ⟨g, 0, none⟩) A' L c' (enc L (num xs)) (encT m) hb.bytes (HM.out.still hk) (by rw [enc_length]; exact Nat.le_refl _) (by rw [HL.out]; exact hmc) (by rw [enc_length]; omega) (by rw [HL.out]; omega)
  rw [enc_length, HL.out, num_enc, num_encT] at hle
  have HB := Lib.hid hb
  have HK := Lib.hid hk
  by_cases hlt : num xs % Pb L < m
  · rw [decide_eq_true hlt] at hle
    have HLE := Lib.hid hle
    have HLT := Lib.hid hlt
    clear hle hb hk hlt HW
    go_wp2_with fail
    refine HLE.out.mono ?_
    rintro e w2 ⟨rfl, k2⟩
    have hfin : Below_ L m w (.returned (.slice (some ⟨g, 0, none⟩) L L)) w2 := ⟨num xs % Pb L, g, HLT.out, rfl, hg, by
      rw [show enc L (num xs % Pb L) = enc L (num xs) from num_inj (by simp [enc_length]) (by rw [num_enc, num_enc, Nat.mod_mod])]
      exact HB.out.kept k2 (fun e => e), HK.out.none k2⟩
    have FIN := Lib.hid hfin
    clear hfin k2 HLE
    go_wp2_with fail
    go_ret
    exact FIN.out
  · rw [decide_eq_false hlt] at hle
    have HLE := Lib.hid hle
    clear hle hb hk hlt HW
    go_wp2_with fail
    refine HLE.out.mono ?_
    rintro e w2 ⟨rfl, k2⟩
    have hb2 := HB.out.kept k2 (fun e => e)
    obtain ⟨x, hx⟩ : ∃ x, (enc L (num xs))[0]? = some x := ⟨_, List.getElem?_eq_getElem (by rw [enc_length]; exact hL1)⟩
    have c0 : w2.cell? ⟨g, 0, none⟩ = some (.int .u8 (x.toNat : Int)) := hb2.cellIs (by rw [List.getElem?_toArray, List.getElem?_map, hx]; rfl)
    have f0 := hb2.frozen 0
    have hL1i : (0 : Int) < (L : Int) := by omega
    have hset := num_set_at (enc_length L (num xs)) hx 0
    rw [show (0 : UInt8).toNat = 0 from rfl, Nat.zero_mul, Nat.add_zero, Nat.sub_zero] at hset
    have htop : (enc L (num xs)).set 0 0 = enc L (num ((enc L (num xs)).set 0 0)) := (enc_num (by rw [List.length_set, enc_length])).symm
    have hlen : num ((enc L (num xs)).set 0 0) < Pb (L - 1) := by
      cases hE : enc L (num xs) with
      | nil => rw [hE] at hx; simp at hx
      | cons y ys =>
        have hl1 : (enc L (num xs)).length = L := enc_length _ _
        rw [hE] at hl1
        have := num_lt ys
        rw [List.set_cons_zero, num_cons, show (0 : UInt8).toNat = 0 from rfl, Nat.zero_mul, Nat.zero_add]
        rw [show L - 1 = ys.length by rw [List.length_cons] at hl1; omega]
        exact this
    have hfin : ∀ w', w' = w2.setCell ⟨g, 0, none⟩ (.int .u8 0) → Below_ L m w (.returned (.slice (some ⟨g, 0, none⟩) L L)) w' := by
      rintro w' rfl
      refine ⟨num ((enc L (num xs)).set 0 0), g, by omega, rfl, hg, ?_, (HK.out.none k2).setNew hg _ _⟩
      rw [← htop]
      have := hb2.set_ 0 (.int .u8 0)
      rw [List.setIfInBounds_toArray] at this
      rw [List.map_set]; exact this
    have FIN := Lib.hid hfin
    clear hfin k2 HLE hb2 hx hset htop hlen hlow
    go_wp2_with fail
    go_ret
    exact FIN.out _ rfl

theorem duo_len (n : Nat) (hn : n < 256) : (encT (Mp (e1 n) * Mp (e2 n))).length = (bitLen (Mp (e1 n) * Mp (e2 n)) + 7) / 8 ∧ (bitLen (Mp (e1 n) * Mp (e2 n)) + 7) / 8 ≤ 81 ∧ 1 < Mp (e1 n) * Mp (e2 n) ∧ Mp (e1 n) * Mp (e2 n) % 2 = 1 := by
  have h := duo n hn
  have h1 := h.sum
  have h2 := h.big
  refine ⟨encT_length_bits _, by rw [h.bits]; omega, ?_, h.oddN⟩
  have h3 : 1 < Mp (e1 n) := by omega
  have h4 : 1 < Mp (e2 n) := by omega
  exact Nat.lt_of_lt_of_le h3 (Nat.le_mul_of_pos_right _ (by omega))

theorem fnTimes_walk (a : Int) (D : Option Addr) (cap : Nat) (dig : List UInt8) (w : World) (ha0 : 0 ≤ a) (ha1 : a ≤ 255) (hd : BytesAt w D dig) (_hc : dig.length ≤ cap) (_hm : cap ≤ maxLen) :
    Calls Try.prog 4 #[.int .u8 a, .slice D dig.length cap] w fun e w' => e = .returned (.bool true) ∧ Kept NoBlk w w' := by
  unfold maxLen at _hm
  by_cases h1 : 2147483647 < dig.length
  · go_enter Try.func4, Try.ntmps4
    go_wp2_with fail
    go_ret
    exact ⟨rfl, Kept.refl _ _⟩
  have hbey := beyond_any w.heap.size [dig.length] (w.alloc (.cells #[.int .i64 dig.length] 3))
    (at_new w 3 ([dig.length].map fun (n : Nat) => Value.int .i64 (n : Int))) (by simp)
  by_cases h2 : 1048576 < dig.length
  · rw [show ([dig.length].any fun n => decide (1048576 < n)) = true by simpa using h2] at hbey
    have HB := Lib.hid hbey
    clear hbey
    go_enter Try.func4, Try.ntmps4
    go_wp2_with fail
    refine HB.out.mono ?_
    rintro e w' ⟨rfl, rfl⟩
    go_wp2_with fail
    go_ret
    exact ⟨rfl, (Kept.refl _ _).alloc _⟩
  rw [show ([dig.length].any fun n => decide (1048576 < n)) = false by simp; omega] at hbey
  have HB := Lib.hid hbey
  clear hbey
  obtain ⟨k, rfl⟩ := Int.eq_ofNat_of_zero_le ha0
  have hk : k < 256 := by omega
  have HD := Lib.hid hd
  have hlen := duo_len k hk
  have HMOD := Lib.hid (fun w => modulus_spec k hk w)
  obtain ⟨m, hm⟩ : ∃ m, Mp (e1 k) * Mp (e2 k) = m := ⟨_, rfl⟩
  rw [hm] at hlen HMOD
  obtain ⟨hl1, hl2, hm1, hmo⟩ := hlen
  obtain ⟨L, hL⟩ : ∃ L, (bitLen m + 7) / 8 = L := ⟨_, rfl⟩
  rw [hL] at hl1 hl2
  have HLL := Lib.hid hl1
  have HLB := Lib.hid hL
  have HMO := Lib.hid hmo
  clear hd hl1 hL hmo hm
  go_enter Try.func4, Try.ntmps4
  go_wp2_with fail
  refine HB.out.mono ?_
  rintro e w' ⟨rfl, rfl⟩
  clear HB
  go_wp2_with fail
  refine (HMOD.out _).mono ?_
  rintro e w1 ⟨A1, c1, rfl, hat1, hc1, k1⟩
  rw [HLL.out] at hc1 ⊢
  have K1 := Lib.hid (((Kept.refl NoBlk w).alloc (.cells #[.int .i64 dig.length] 3)).none k1)
  have HN := Lib.hid hat1
  have HBE := Lib.hid (below_any w1 D A1 cap c1 m L dig (HD.out.still K1.out) hat1 HLL.out _hc hc1 (by omega) (by omega) (by omega))
  clear hat1 k1 HMOD
  go_wp2_with fail
  refine HBE.out.mono ?_
  rintro e w2 ⟨v, g2, hv, rfl, hg2, hb2, k2⟩
  have HV := Lib.hid hv
  have K2 := Lib.hid (K1.out.none k2)
  have HN2 := Lib.hid (HN.out.still k2)
  have HB2 := Lib.hid hb2.bytes
  have hvp : num (enc L v) = v := num_enc_of_lt (Nat.lt_trans hv (by have := encT_lt m; rw [HLL.out] at this; exact this))
  have hp : ∀ (e : Nat) (w : World) (B' : Option Addr) (cap' : Nat) (x : Nat), 0 < e → e < 65538 → x < m → BytesAt w A1 (encT m) → BytesAt w B' (enc L x) →
      Calls Try.prog 10 #[.slice A1 L c1, .int .i64 (e : Int), .slice B' L cap'] w fun y w' => ∃ A c, y = .returned (.tuple #[.slice A L c, .bool true]) ∧ BytesAt w' A (enc L (x ^ e % m)) ∧ Kept NoBlk w w' := by
    intro e w B' cap' x h1 h2 hx hn hb
    have hxp : num (enc L x) = x := num_enc_of_lt (Nat.lt_trans hx (by have := encT_lt m; rw [HLL.out] at this; exact this))
    have h := implPublic_any A1 B' c1 cap' e (encT m) (enc L x) w hn (by rw [HLL.out]; omega) (by rw [num_encT]; exact hm1) (by rw [num_encT]; exact HMO.out) h1 (by omega) hb (by rw [num_encT, HLB.out, enc_length]; exact Nat.le_refl _)
    rw [HLL.out, enc_length, num_encT] at h
    refine h.mono ?_
    unfold PubOut
    rw [HLB.out, hxp, enc_length]
    rintro y w' (⟨_, A, c, rfl, b1, _, _, b2⟩ | ⟨b, _⟩)
    · exact ⟨A, c, rfl, b1, b2⟩
    · omega
  have HP := Lib.hid hp
  have HMP := Lib.hid (show 0 < m by omega)
  have hq1 := hp 65537 w2 (some ⟨g2, 0, none⟩) L v (by decide) (by decide) hv (HN.out.still k2) hb2.bytes
  have HQ1 := Lib.hid hq1
  clear hv k2 hb2 hvp hp hq1 HBE
  go_wp2_with fail
  refine HQ1.out.mono ?_
  rintro e w3 ⟨A3, c3, rfl, hb3, k3⟩
  have HQ2 := Lib.hid (HP.out 3 w3 A3 c3 _ (by decide) (by decide) (Nat.mod_lt _ HMP.out) (HN2.out.still k3) hb3)
  have K3 := Lib.hid (K2.out.none k3)
  have HN3 := Lib.hid (HN2.out.still k3)
  have HB3 := Lib.hid (HB2.out.still k3)
  clear hb3 k3 HQ1
  go_wp2_with fail
  refine HQ2.out.mono ?_
  rintro e w4 ⟨A4, c4, rfl, hb4, k4⟩
  have HB4 := Lib.hid hb4
  have K4 := Lib.hid (K3.out.none k4)
  have HN4 := Lib.hid (HN3.out.still k4)
  have HQ3 := Lib.hid (HP.out 3 w4 (some ⟨g2, 0, none⟩) L v (by decide) (by decide) HV.out (HN3.out.still k4) (HB3.out.still k4))
  clear hb4 k4 HQ2
  go_wp2_with fail
  refine HQ3.out.mono ?_
  rintro e w5 ⟨A5, c5, rfl, hb5, k5⟩
  have K5 := Lib.hid (K4.out.none k5)
  have HB5 := Lib.hid (HB4.out.still k5)
  have HQ4 := Lib.hid (HP.out 65537 w5 A5 c5 _ (by decide) (by decide) (Nat.mod_lt _ HMP.out) (HN4.out.still k5) hb5)
  clear hb5 k5 HQ3
  go_wp2_with fail
  refine HQ4.out.mono ?_
  rintro e w6 ⟨A6, c6, rfl, hb6, k6⟩
  have heq : (v ^ 3 % m) ^ 65537 % m = (v ^ 65537 % m) ^ 3 % m := by
    generalize 65537 = e
    rw [← Nat.pow_mod, ← Nat.pow_mod, ← Nat.pow_mul, ← Nat.pow_mul, Nat.mul_comm]
  rw [heq] at hb6
  have hsame := same_any w6 A4 A6 c4 c6 _ _ (HB5.out.still k6) hb6
  rw [beq_self_eq_true, enc_length] at hsame
  have HS := Lib.hid hsame
  have K6 := Lib.hid (K5.out.none k6)
  clear hb6 k6 heq hsame HQ4
  go_wp2_with fail
  refine HS.out.mono ?_
  rintro e w' ⟨rfl, rfl⟩
  clear HS
  go_wp2_with fail
  go_ret
  exact ⟨rfl, K6.out⟩

end Go.Proofs.Ytmheoenieaemmaa
