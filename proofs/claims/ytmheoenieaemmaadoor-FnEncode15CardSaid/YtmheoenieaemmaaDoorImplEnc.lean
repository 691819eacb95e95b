/-
  rsa.ZZConstructEM, impl.Encode15.
-/
import Derived.Test.YtmheoenieaemmaaDoorConBare
import Derived.Test.YtmheoenieaemmaaDoorModulus
namespace Go.Proofs.YtmheoenieaemmaaDoor
open Go.RowKit

theorem num_row255 (n : Nat) : num (row255 n) = Pb n - 1 := by
  unfold row255
  induction n with
  | zero => rfl
  | succ n ih =>
    have := Pb_pos n
    rw [List.replicate_succ, num, ih, List.length_replicate, Pb_succ]
    show 255 * Pb n + (Pb n - 1) = 256 * Pb n - 1
    omega
theorem row255_length (n : Nat) : (row255 n).length = n := List.length_replicate
theorem size_row255 (n : Nat) (hn : 1 ≤ n) : (bitLen (num (row255 n)) + 7) / 8 = n := by
  have h1 := Pb_pos n
  have h2 := Pb_two n
  have e : bitLen (Pb n - 1) = 8 * n := by
    have a := (bitLen_le (Pb n - 1) (8 * n)).2 (by omega)
    have b : ¬ bitLen (Pb n - 1) ≤ 8 * n - 1 := fun h => by
      have := (bitLen_le _ _).1 h
      have e : 2 ^ (8 * n) = 2 * 2 ^ (8 * n - 1) := by rw [← Nat.pow_succ']; congr 1; omega
      have := Nat.pow_pos (n := 8 * n - 1) (show 0 < 2 by decide)
      have : 2 ≤ 2 ^ (8 * n - 1) := by
        have := Nat.pow_le_pow_right (n := 2) (by decide) (show 1 ≤ 8 * n - 1 by omega)
        simpa using this
      omega
    omega
  rw [num_row255, e]; omega
theorem row255_big (n : Nat) (hn : 1 ≤ n) : 1 < num (row255 n) := by
  rw [num_row255]
  have := Pb_le hn
  have : Pb 1 = 256 := rfl
  omega

/-- What ZZConstructEM leaves. -/
def ZzEM (k : Nat) (pre dig : List UInt8) (ea : Addr) (w : World) (e : Ending) (w' : World) : Prop := ConEM k pre dig (.iface 148 (.pointer (some ea))) w e w'

theorem ConEM.later {k : Nat} {pre dig : List UInt8} {er : Value} {w0 w w' : World} {e : Ending} (h : ConEM k pre dig er w e w') (k0 : Kept NoBlk w0 w) : ConEM k pre dig er w0 e w' := by
  rcases h with ⟨a, b, c⟩ | ⟨a, g, b, c, d, e⟩
  · exact .inl ⟨a, b, k0.none c⟩
  · exact .inr ⟨a, g, b, Nat.le_trans k0.size c, d, k0.none e⟩

def errBlk : Nat := 0
/-- The listed error's variable. -/
def TooLong (w : World) (ea : Addr) : Prop := w.cell? ⟨0, 0, none⟩ = some (.iface 148 (.pointer (some ea)))
theorem TooLong.still {w w' : World} {ea : Addr} (h : TooLong w ea) (k : Kept NoBlk w w') : TooLong w' ea := (k.cell (World.block_lt_of_cell? _ _ h) (fun e => e)).trans h

theorem zzEM_any (s : ByteArray) (i : Nat) (hs : (i < 8 ∧ s = hName i) ∨ (i = 8 ∧ s = ⟨#[]⟩)) (n : Nat) (hn1 : 1 ≤ n) (hn : n ≤ 1000) (A D : Option Addr) (ca cd : Nat) (dig : List UInt8) (ea : Addr) (w : World) (ha : BytesAt w A (row255 n)) (hA : ∀ a, A = some a → a.block < w.heap.size) (hca : n ≤ ca)
    (hd : BytesAt w D dig) (hdl : dig.length ≤ 1000000) (hg : TooLong w ea) (hsz : i < 8 → dig.length = hSize i) :
    Calls Tryd.prog 30 #[.slice A n ca, .string s, .slice D dig.length cd] w (ConEM n (if i < 8 then hPfx i else []) dig (.iface 148 (.pointer (some ea))) w) := by
  have hnm := newMod_any A ca (row255 n) w ha (fun a e _ => hA a e) (by rw [row255_length]; exact hca) (by rw [row255_length]; omega) (row255_big n hn1)
  rw [row255_length] at hnm
  have HNM := Lib.hid hnm
  have HD := Lib.hid hd
  have HG := Lib.hid hg
  have HS := Lib.hid hs
  have HSZ := Lib.hid hsz
  obtain ⟨pre, hpre⟩ : ∃ pre, (if i < 8 then hPfx i else []) = pre := ⟨_, rfl⟩
  rw [hpre]
  have HPRE := Lib.hid hpre
  clear hnm ha hd hg hs hsz hpre hA
  go_enter Tryd.func30, Tryd.ntmps30
  go_wp2_with fail
  refine HNM.out.mono ?_
  rintro e w1 ⟨q, pn, bn, ms, mr, rfl, _, _, _, ⟨mi, rv, hm, _⟩, hv, _, hml, _, k1⟩
  have hb2 := Blk.new w1 94 #[.pointer (some ⟨q, 0, none⟩), .int .i64 0]
  obtain ⟨W2, hW2⟩ : ∃ W2, w1.alloc (.cells #[.pointer (some ⟨q, 0, none⟩), .int .i64 0] 94) = W2 := ⟨_, rfl⟩
  rw [hW2] at hb2
  have k2 : Kept NoBlk w W2 := by rw [← hW2]; exact k1.alloc _
  have k12 : Kept NoBlk w1 W2 := by rw [← hW2]; exact (Kept.refl _ w1).alloc _
  have hsz2 : (bitLen (val ms) + 7) / 8 = n := by rw [hv]; exact size_row255 n hn1
  have hcon : Calls Tryd.prog 50 #[.pointer (some ⟨w1.heap.size, 0, none⟩), .string s, .slice D dig.length cd] W2 (ConEM n pre dig (.iface 148 (.pointer (some ea))) W2) := by
    rcases HS.out with ⟨hi, rfl⟩ | ⟨hi, rfl⟩
    · rw [← HPRE.out, if_pos hi]
      exact conEM_name i hi w1.heap.size q pn bn n ms mr _ mi rv _ D cd dig W2 (hb2.cellIs rfl) (hm.still k12) (by omega) hsz2 (HG.out.still k2) (HD.out.still k2) hdl (by omega) (HSZ.out hi)
    · rw [← HPRE.out, if_neg (by omega)]
      exact conEM_bare w1.heap.size q pn bn n ms mr _ mi rv _ D cd dig W2 (hb2.cellIs rfl) (hm.still k12) (by omega) hsz2 (HG.out.still k2) (HD.out.still k2) hdl (by omega)
  have HC := Lib.hid hcon
  have HK2 := Lib.hid k2
  clear hm hv k1 hb2 k2 k12 hsz2 hcon HNM
  go_wp2_with fail
  refine HC.out.mono ?_
  intro e w3 h
  rcases h with ⟨a, rfl, c⟩ | ⟨a, g, rfl, c, d, k3⟩
  · have hfin : ConEM n pre dig (.iface 148 (.pointer (some ea))) w (.returned (.tuple #[.slice none 0 0, .iface 148 (.pointer (some ea))])) w3 := .inl ⟨a, rfl, HK2.out.none c⟩
    have FIN := Lib.hid hfin
    clear hfin c a HC
    go_wp2_with fail
    go_ret2
    exact FIN.out
  · have hfin : ConEM n pre dig (.iface 148 (.pointer (some ea))) w (.returned (.tuple #[.slice (some ⟨g, 0, none⟩) n n, .nilIface])) w3 := .inr ⟨a, g, rfl, Nat.le_trans HK2.out.size c, d, HK2.out.none k3⟩
    have FIN := Lib.hid hfin
    clear hfin a c d k3 HC
    go_wp2_with fail
    go_ret2
    exact FIN.out

/-- What impl.Encode15 leaves. -/
def ImplEnc (k : Nat) (pre dig : List UInt8) (w : World) (e : Ending) (w' : World) : Prop :=
  (k < pre.length + dig.length + 11 ∧ e = .returned (.tuple #[.slice none 0 0, .bool false]) ∧ Kept NoBlk w w') ∨
  (pre.length + dig.length + 11 ≤ k ∧ ∃ A c, e = .returned (.tuple #[.slice A (emOf (k - pre.length - dig.length - 3) pre dig).length c, .bool true]) ∧ BytesAt w' A (emOf (k - pre.length - dig.length - 3) pre dig) ∧ Kept NoBlk w w')

theorem implEnc_any (s : ByteArray) (i : Nat) (hs : (i < 8 ∧ s = hName i) ∨ (i = 8 ∧ s = ⟨#[]⟩)) (n : Nat) (hn1 : 1 ≤ n) (hn : n ≤ 1000) (A D : Option Addr) (ca cd : Nat) (dig : List UInt8) (ea : Addr) (w : World) (ha : BytesAt w A (row255 n))
    (hd : BytesAt w D dig) (hdl : dig.length ≤ 1000000) (hg : TooLong w ea) (hsz : i < 8 → dig.length = hSize i) :
    Calls Tryd.prog 15 #[.slice A n ca, .string s, .slice D dig.length cd] w (ImplEnc n (if i < 8 then hPfx i else []) dig w) := by
  have hcp := copied_any w A ca (row255 n) ha (by rw [row255_length]; omega)
  rw [row255_length] at hcp
  have HCP := Lib.hid hcp
  have HD := Lib.hid hd
  have HG := Lib.hid hg
  have HS := Lib.hid hs
  have HSZ := Lib.hid hsz
  obtain ⟨pre, hpre⟩ : ∃ pre, (if i < 8 then hPfx i else []) = pre := ⟨_, rfl⟩
  rw [hpre]
  have HPRE := Lib.hid hpre
  clear hcp ha hd hg hs hsz hpre
  go_enter Tryd.func15, Tryd.ntmps15
  go_wp2_with fail
  refine HCP.out.mono ?_
  rintro e w1 ⟨v1, rfl, ho1, k1⟩
  rw [row255_length] at ho1
  obtain ⟨A1, c1, rfl, hl1, _, hat1, hb1⟩ := own_form ho1
  have hA1 := own_lt ho1
  have hd1 := copied_any w1 D cd dig (HD.out.still k1) (by omega)
  have HCD := Lib.hid hd1
  have HK1 := Lib.hid k1
  have HA1 := Lib.hid hat1
  have HAL := Lib.hid (fun a e => (hA1 a e).2)
  clear ho1 k1 hat1 hb1 hA1 hd1 HCP
  go_wp2_with fail
  refine HCD.out.mono ?_
  rintro e w2 ⟨v2, rfl, ho2, k2⟩
  obtain ⟨D2, c2, rfl, hl2, _, hat2, _⟩ := own_form ho2
  have k02 : Kept NoBlk w w2 := HK1.out.none k2
  have hzz := zzEM_any s i HS.out n hn1 hn A1 D2 c1 c2 dig ea w2 (BytesAt.still (show BytesAt w1 A1 (row255 n) from HA1.out) k2) (fun a e => Nat.lt_of_lt_of_le (HAL.out a e) k2.size) hl1 hat2 hdl (HG.out.still k02) HSZ.out
  rw [HPRE.out] at hzz
  have HZZ := Lib.hid hzz
  have HK2 := Lib.hid k02
  clear ho2 k2 hat2 k02 hzz HCD
  go_wp2_with fail
  refine HZZ.out.mono ?_
  intro e w3 h
  rcases h with ⟨a, rfl, c⟩ | ⟨a, g, rfl, c, d, k3⟩
  · have hfin : ImplEnc n pre dig w (.returned (.tuple #[.slice none 0 0, .bool false])) w3 := .inl ⟨a, rfl, HK2.out.none c⟩
    have FIN := Lib.hid hfin
    clear hfin c a HZZ
    go_wp2_with fail
    refine (either_err _ ea w3).mono ?_
    rintro e w4 ⟨rfl, rfl⟩
    go_wp2_with fail
    go_ret2
    exact FIN.out
  · have hl : (emOf (n - pre.length - dig.length - 3) pre dig).length = n := by rw [emOf_length]; omega
    have hei := either_ok (some ⟨g, 0, none⟩) n (emOf (n - pre.length - dig.length - 3) pre dig) w3 (d.at_ _ (fun j u hu => by rw [List.getElem?_toArray]; exact hu)) (by rw [hl]; omega)
    rw [hl] at hei
    have HEI := Lib.hid hei
    have HK3 := Lib.hid (HK2.out.none k3)
    have HL := Lib.hid hl
    have HAA := Lib.hid a
    clear a c d k3 hl hei HZZ
    go_wp2_with fail
    refine HEI.out.mono ?_
    rintro e w4 ⟨v, rfl, ho, k4⟩
    obtain ⟨A4, c4, rfl, _, _, hat4, _⟩ := own_form ho
    have hfin : ImplEnc n pre dig w (.returned (.tuple #[.slice A4 n c4, .bool true])) w4 := .inr ⟨HAA.out, A4, c4, by rw [HL.out], hat4, HK3.out.none k4⟩
    have FIN := Lib.hid hfin
    clear hfin ho k4 hat4 HEI
    go_wp2_with fail
    go_ret2
    exact FIN.out

end Go.Proofs.YtmheoenieaemmaaDoor
