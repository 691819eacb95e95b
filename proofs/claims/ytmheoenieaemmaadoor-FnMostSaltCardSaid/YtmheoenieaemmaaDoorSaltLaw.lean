/-
  PSSMaxSaltLength, impl.MostSalt, the walk of FnMostSalt.
-/
import Derived.Test.YtmheoenieaemmaaDoorSalt
import Derived.Test.YtmheoenieaemmaaDoorTooLong
namespace Go.Proofs.YtmheoenieaemmaaDoor
open Go.RowKit

theorem salt_low {v : Nat} (h : 0 < v) : 1 ≤ bitLen v := by
  apply Classical.byContradiction
  intro hc
  have := (bitLen_le v 0).1 (by omega)
  simp at this; omega
theorem salt_bytes (bs : List UInt8) (k : Nat) (h : bs.length ≤ k) : bitLen (num bs) ≤ 8 * k := by
  have h2 := num_lt bs
  have h3 := Pb_le h
  exact (bitLen_le (num bs) (8 * k)).2 (by rw [← Pb_two]; exact Nat.lt_of_lt_of_le h2 h3)

theorem shaSize_any (g : Nat) (w : World) (c : w.cell? ⟨g, 74, none⟩ = some (.bool false)) : Calls Tryd.prog 152 #[.pointer (some ⟨g, 0, none⟩)] w fun e w' => e = .returned (.int .i64 32) ∧ w = w' := by
  go_enter Tryd.func152, Tryd.ntmps152
  go_wp2_with fail
  go_ret
  exact ⟨rfl, rfl⟩
theorem ownSize_any (g n : Nat) (w : World) (c : w.cell? ⟨g, 0, none⟩ = some (.int .i64 (n : Int))) : Calls Tryd.prog 156 #[.pointer (some ⟨g, 0, none⟩)] w fun e w' => e = .returned (.int .i64 (n : Int)) ∧ w = w' := by
  go_enter Tryd.func156, Tryd.ntmps156
  go_wp2_with fail
  go_ret
  exact ⟨rfl, rfl⟩

/-- What PSSMaxSaltLength leaves. -/
def MaxOut (t : Int) (ea : Addr) (w : World) (e : Ending) (w' : World) : Prop :=
  (t < 0 ∧ e = .returned (.tuple #[.int .i64 0, .iface 148 (.pointer (some ea))]) ∧ Kept NoBlk w w') ∨ (0 ≤ t ∧ e = .returned (.tuple #[.int .i64 t, .nilIface]) ∧ Kept NoBlk w w')

/-- A hash's value. -/
def HashV (w : World) (n : Nat) (v : Value) : Prop :=
  (n = 32 ∧ ∃ g, v = .iface 97 (.pointer (some ⟨g, 0, none⟩)) ∧ w.cell? ⟨g, 74, none⟩ = some (.bool false)) ∨
  (n ≤ 16 ∧ ∃ g, v = .iface 99 (.pointer (some ⟨g, 0, none⟩)) ∧ w.cell? ⟨g, 0, none⟩ = some (.int .i64 (n : Int)))

set_option maxRecDepth 200000 in
theorem pssMax_any (pp q pn pr nn m e n : Nat) (ea : Addr) (v : Value) (w : World) (hp : Pub w pp q pn pr nn m e) (hv : HashV w n v) (hg : TooLong w ea) (hm : 1 ≤ bitLen m) (hm2 : bitLen m ≤ 100000) :
    Calls Tryd.prog 37 #[.pointer (some ⟨pp, 0, none⟩), v] w (MaxOut ((((bitLen m + 6) / 8 : Nat) : Int) - 2 - (n : Int)) ea w) := by
  obtain ⟨c1, _⟩ := hp.cells
  have HB := Lib.hid (bitLen_md q pn pr nn m w hp.md)
  obtain ⟨bl, hbl⟩ : ∃ bl, bitLen m = bl := ⟨_, rfl⟩
  rw [hbl] at HB hm hm2 ⊢
  obtain ⟨y, hy⟩ : ∃ y, (bl + 6) / 8 = y := ⟨_, rfl⟩
  rw [hy]
  have hyi : ((bl : Int) - 1 + 7) / 8 = (y : Int) := by omega
  have hyi2 : ((bl : Int) - 1 + 7).tdiv 8 = (y : Int) := by rw [Int.tdiv_eq_ediv_of_nonneg (by omega)]; exact hyi
  have hyl : (y : Int) ≤ 100000 := by omega
  have hbl0 : (1 : Int) ≤ (bl : Int) := by omega
  have hbl9 : (bl : Int) ≤ 100000 := by omega
  have hgc : w.cell? ⟨0, 0, none⟩ = some (.iface 148 (.pointer (some ea))) := hg
  clear hp hbl hy hg hm hm2
  rcases hv with ⟨rfl, g, rfl, cg⟩ | ⟨hn, g, rfl, cg⟩
  · have HS := Lib.hid (shaSize_any g w cg)
    by_cases ht : (y : Int) - 2 - ((32 : Nat) : Int) < 0
    · have FIN : Hid (∀ w', Kept NoBlk w w' → MaxOut ((y : Int) - 2 - ((32 : Nat) : Int)) ea w (.returned (.tuple #[.int .i64 0, .iface 148 (.pointer (some ea))])) w') := Lib.hid (fun w' k => .inl ⟨ht, rfl, k⟩)
      have ht2 : (y : Int) - 2 - 32 < 0 := ht
      clear ht
      go_enter Tryd.func37, Tryd.ntmps37
      go_wp2_with fail
      refine HB.out.mono ?_
      rintro x w' ⟨rfl, rfl⟩
      go_wp2_with fail
      refine HS.out.mono ?_
      rintro x w' ⟨rfl, rfl⟩
      go_wp2_with fail
      go_quiet (fail)
      go_wp2_with fail
      go_ret2
      exact FIN.out _ ((Kept.refl _ _).drewN _)
    · have FIN : Hid (∀ w', Kept NoBlk w w' → MaxOut ((y : Int) - 2 - ((32 : Nat) : Int)) ea w (.returned (.tuple #[.int .i64 ((y : Int) - 2 - 32), .nilIface])) w') := Lib.hid (fun w' k => .inr ⟨by omega, rfl, k⟩)
      have ht2 : ¬ (y : Int) - 2 - 32 < 0 := ht
      clear ht
      go_enter Tryd.func37, Tryd.ntmps37
      go_wp2_with fail
      refine HB.out.mono ?_
      rintro x w' ⟨rfl, rfl⟩
      go_wp2_with fail
      refine HS.out.mono ?_
      rintro x w' ⟨rfl, rfl⟩
      go_wp2_with fail
      go_ret2
      exact FIN.out _ (Kept.refl _ _)
  · have HS := Lib.hid (ownSize_any g n w cg)
    have hni : (n : Int) ≤ 16 := by omega
    by_cases ht : (y : Int) - 2 - (n : Int) < 0
    · have FIN : Hid (∀ w', Kept NoBlk w w' → MaxOut ((y : Int) - 2 - (n : Int)) ea w (.returned (.tuple #[.int .i64 0, .iface 148 (.pointer (some ea))])) w') := Lib.hid (fun w' k => .inl ⟨ht, rfl, k⟩)
      go_enter Tryd.func37, Tryd.ntmps37
      go_wp2_with fail
      refine HB.out.mono ?_
      rintro x w' ⟨rfl, rfl⟩
      go_wp2_with fail
      refine HS.out.mono ?_
      rintro x w' ⟨rfl, rfl⟩
      go_wp2_with fail
      go_quiet (fail)
      go_wp2_with fail
      go_ret2
      exact FIN.out _ ((Kept.refl _ _).drewN _)
    · have FIN : Hid (∀ w', Kept NoBlk w w' → MaxOut ((y : Int) - 2 - (n : Int)) ea w (.returned (.tuple #[.int .i64 ((y : Int) - 2 - (n : Int)), .nilIface])) w') := Lib.hid (fun w' k => .inr ⟨by omega, rfl, k⟩)
      go_enter Tryd.func37, Tryd.ntmps37
      go_wp2_with fail
      refine HB.out.mono ?_
      rintro x w' ⟨rfl, rfl⟩
      go_wp2_with fail
      refine HS.out.mono ?_
      rintro x w' ⟨rfl, rfl⟩
      go_wp2_with fail
      go_ret2
      exact FIN.out _ (Kept.refl _ _)

/-- What impl.MostSalt leaves. -/
def MostOut (t : Int) (w : World) (e : Ending) (w' : World) : Prop :=
  (t < 0 ∧ e = .returned (.tuple #[.int .i64 0, .bool false]) ∧ Kept NoBlk w w') ∨ (0 ≤ t ∧ e = .returned (.tuple #[.int .i64 t, .bool true]) ∧ Kept NoBlk w w')

theorem mostSalt_any (A : Option Addr) (cap e : Nat) (bs : List UInt8) (k s b : Int) (ea : Addr) (w : World) (hb : BytesAt w A bs) (hL : bs.length ≤ 256) (h1 : 1 < num bs) (_hk : -9223372036854775808 ≤ s ∧ s ≤ 9223372036854775807) (hg : TooLong w ea) :
    Calls Tryd.prog 21 #[.slice A bs.length cap, .int .i64 (e : Int), .agg #[.int .i64 k, .int .i64 s, .int .i64 b]] w (MostOut ((((bitLen (num bs) + 6) / 8 : Nat) : Int) - 2 - (hszOf k s b : Int)) w) := by
  obtain ⟨w0, hw0⟩ : ∃ w0, w.alloc (.cells #[.int .i64 k, .int .i64 s, .int .i64 b] 38) = w0 := ⟨_, rfl⟩
  have hbh := Blk.new w 38 #[.int .i64 k, .int .i64 s, .int .i64 b]
  rw [hw0] at hbh
  have K0 : Hid (Kept NoBlk w w0) := Lib.hid (by rw [← hw0]; exact (Kept.refl _ w).alloc _)
  have HP := Lib.hid (public_any A cap e bs w0 (hb.still K0.out) hL h1)
  have hbl1 : 1 ≤ bitLen (num bs) := salt_low (by omega)
  have hbl2 := salt_bytes bs 256 hL
  have HG := Lib.hid (hg.still K0.out)
  have HBH := Lib.hid hbh
  have HMD : Hid (∀ w', _) := Lib.hid (fun w' => made_any k s b w' _hk)
  obtain ⟨n, hn⟩ : ∃ n, hszOf k s b = n := ⟨_, rfl⟩
  rw [hn] at HMD ⊢
  obtain ⟨m, hm⟩ : ∃ m, num bs = m := ⟨_, rfl⟩
  rw [hm] at HP hbl1 hbl2 ⊢
  have hbl3 : bitLen m ≤ 100000 := Nat.le_trans hbl2 (by decide)
  have HBL1 := Lib.hid hbl1
  have HBL3 := Lib.hid hbl3
  clear hb h1 hg hbh hn hm hbl1 hbl2 hbl3
  go_enter Tryd.func21, Tryd.ntmps21
  go_wp2_with fail
  refine HP.out.mono ?_
  rintro x w1 ⟨pp, q, pn, pr, nn, rfl, hP, k1⟩
  have hb1 := HBH.out.kept k1 (fun e => e)
  have c0 : w1.cell? ⟨w.heap.size, 0, none⟩ = some (.int .i64 k) := hb1.cellIs rfl
  have c1 : w1.cell? ⟨w.heap.size, 1, none⟩ = some (.int .i64 s) := hb1.cellIs rfl
  have c2 : w1.cell? ⟨w.heap.size, 2, none⟩ = some (.int .i64 b) := hb1.cellIs rfl
  have HPU := Lib.hid hP
  have K1 := Lib.hid k1
  clear hb1 hP k1 HP HBH
  go_wp2_with fail
  refine (HMD.out _).mono ?_
  rintro x w2 ⟨k2, h⟩
  have hv : ∃ v, x = .returned v ∧ HashV w2 n v := by
    rcases h with ⟨h1, g, rfl, h2, h3⟩ | ⟨h1, g, rfl, h2, h3⟩
    · exact ⟨_, rfl, .inl ⟨h1, g, rfl, h3⟩⟩
    · exact ⟨_, rfl, .inr ⟨h1, g, rfl, h3⟩⟩
  obtain ⟨v, rfl, hv⟩ := hv
  have HM := Lib.hid (pssMax_any pp q pn pr nn m e n ea v w2 (HPU.out.still k2) hv ((HG.out.still K1.out).still k2) HBL1.out HBL3.out)
  have K2 := Lib.hid ((K0.out.none K1.out).none k2)
  have HH : Hid (∃ t g, v = .iface t (.pointer (some g))) := Lib.hid (by
    rcases hv with ⟨_, g, rfl, _⟩ | ⟨_, g, rfl, _⟩
    · exact ⟨_, _, rfl⟩
    · exact ⟨_, _, rfl⟩)
  clear h k2 hv HMD c0 c1 c2 hw0
  obtain ⟨tt, gg, rfl⟩ := HH.out
  go_wp2_with fail
  refine HM.out.mono ?_
  rintro x w3 (⟨a1, rfl, k3⟩ | ⟨a1, rfl, k3⟩)
  · have FIN : Hid (MostOut ((((bitLen m + 6) / 8 : Nat) : Int) - 2 - (n : Int)) w (.returned (.tuple #[.int .i64 0, .bool false])) w3) := Lib.hid (.inl ⟨a1, rfl, K2.out.none k3⟩)
    clear a1 k3 HM
    go_wp2_with fail
    go_ret2
    exact FIN.out
  · have FIN : Hid (MostOut ((((bitLen m + 6) / 8 : Nat) : Int) - 2 - (n : Int)) w (.returned (.tuple #[.int .i64 ((((bitLen m + 6) / 8 : Nat) : Int) - 2 - (n : Int)), .bool true])) w3) := Lib.hid (.inr ⟨a1, rfl, K2.out.none k3⟩)
    clear a1 k3 HM
    go_wp2_with fail
    go_ret2
    exact FIN.out

end Go.Proofs.YtmheoenieaemmaaDoor
