/-
  The own hash: Reset; all that its methods do.
-/
import Derived.Test.YtgkfnmmajehobaaHasher
namespace Go.Proofs.Ytgkfnmmajehobaa
open Go.RowKit

theorem ownReset_all (g r n : Nat) (x1 x2 : Value) (cs : List UInt8) (w : World) (hb : Blk w g 56 #[.int .i64 n, x1, x2, .slice (some ⟨r, 0, none⟩) n n]) (hr : Blk w r 5 (cs.map B).toArray) (hl : cs.length = n) (hn : n ≤ 16) :
    Calls Try.prog 15 #[.pointer (some ⟨g, 0, none⟩)] w fun e w' => e = .returned (.tuple #[]) ∧ OwnAt w' g r n x1 (0, ownInit n) ∧ Kept (Two g r) w w' := by
  have c2 : w.cell? ⟨g, 2, none⟩ = some x2 := hb.cellIs rfl
  have f2 := hb.frozen 2
  have hne : g ≠ r := hb.ne_ hr (by decide)
  have hb1 := hb.set_ 2 (.int .i64 0)
  have hr1 := hr.far (p := ⟨g, 2, none⟩) hne.symm (.int .i64 0)
  have c3 : (w.setCell ⟨g, 2, none⟩ (.int .i64 0)).cell? ⟨g, 3, none⟩ = some (.slice (some ⟨r, 0, none⟩) n n) := hb1.cellIs rfl
  obtain ⟨w1, hw1⟩ : ∃ w1, w.setCell ⟨g, 2, none⟩ (.int .i64 0) = w1 := ⟨_, rfl⟩
  have hk1 : Kept (Two g r) w w1 := by rw [← hw1]; exact (Kept.refl _ w).setCell _ _ (fun _ => .inl rfl)
  rw [hw1] at hb1 hr1 c3
  have HB1 : Hid (Blk w1 g 56 #[.int .i64 n, x1, .int .i64 0, .slice (some ⟨r, 0, none⟩) n n]) := Lib.hid hb1
  have HR1 := Lib.hid hr1
  have HK1 := Lib.hid hk1
  have HL := Lib.hid hl
  have HNE := Lib.hid hne
  clear hb hr hb1 hr1 hk1 hl
  go_enter Try.func15, Try.ntmps15
  go_wp2_with fail
  clear c2 f2 c3 hw1
  go_loopw [11] (fun iv wr => ∃ (i : Nat) (ds : List UInt8), i ≤ n ∧ iv = .int .i64 (i : Int) ∧ ds.length = n ∧ (∀ j, j < i → ds[j]? = some (UInt8.ofNat j)) ∧ Blk wr r 5 (ds.map B).toArray ∧ Blk wr g 56 #[.int .i64 n, x1, .int .i64 0, .slice (some ⟨r, 0, none⟩) n n] ∧ Kept (Two g r) w wr) (fun iv _ => n - (intOf iv).toNat)
  case atStart => exact ⟨0, cs, Nat.zero_le _, rfl, HL.out, fun j h => absurd h (Nat.not_lt_zero _), HR1.out, HB1.out, HK1.out⟩
  case round =>
    obtain ⟨i, ds, hi, rfl, hd, hpre, hr, hb, hk⟩ := hrel
    rcases Nat.lt_or_ge i n with hlt | hge
    · have d3 : wr.cell? ⟨g, 3, none⟩ = some (.slice (some ⟨r, 0, none⟩) n n) := hb.cellIs rfl
      obtain ⟨x, hx⟩ : ∃ x, ds[i]? = some x := ⟨_, List.getElem?_eq_getElem (by omega)⟩
      have ci : wr.cell? ⟨r, i, none⟩ = some (.int .u8 (x.toNat : Int)) := hr.cellIs (by rw [List.getElem?_toArray, List.getElem?_map, hx]; rfl)
      have fi := hr.frozen i
      have hii : (i : Int) < (n : Int) := by omega
      have hrel2 : ∀ w', w' = wr.setCell ⟨r, i, none⟩ (.int .u8 (i : Int)) → Blk w' r 5 ((ds.set i (UInt8.ofNat i)).map B).toArray ∧ Blk w' g 56 #[.int .i64 n, x1, .int .i64 0, .slice (some ⟨r, 0, none⟩) n n] ∧ Kept (Two g r) w w' := by
        rintro w' rfl
        refine ⟨?_, hb.far (p := ⟨r, i, none⟩) HNE.out _, hk.setCell _ _ (fun _ => .inr rfl)⟩
        have := hr.set_ i (.int .u8 (i : Int))
        rw [List.setIfInBounds_toArray] at this
        rw [List.map_set]
        have e : B (UInt8.ofNat i) = .int .u8 (i : Int) := by unfold B; rw [UInt8.toNat_ofNat', Nat.mod_eq_of_lt (by omega)]
        rw [e]; exact this
      have hi256 : (i : Int) % 256 = (i : Int) := by omega
      have R2 := Lib.hid hrel2
      have HD := Lib.hid hd
      have HP : Hid (∀ j, j < i + 1 → (ds.set i (UInt8.ofNat i))[j]? = some (UInt8.ofNat j)) := Lib.hid (fun j hj => by
        rw [List.getElem?_set]
        by_cases e : i = j
        · subst e; rw [if_pos rfl, if_pos (by omega)]
        · rw [if_neg e]; exact hpre j (by omega))
      clear hrel2 hpre hd hr hb hk hx
      go_wp2_with fail
      go_roundw
      case rel => exact ⟨i + 1, ds.set i (UInt8.ofNat i), by omega, by go_num, by rw [List.length_set]; exact HD.out, HP.out, R2.out _ (by first | rfl | rw [hi256])⟩
      case measure => first | (simp [intOf]; done) | (simp [intOf]; omega)
    · obtain rfl : i = n := by omega
      have hde : ds = ownInit i := by
        apply List.ext_getElem?
        intro j
        rcases Nat.lt_or_ge j i with h | h
        · rw [hpre j h, ownInit, List.getElem?_map, List.getElem?_range h]; rfl
        · rw [List.getElem?_eq_none (by omega), List.getElem?_eq_none (by simp [ownInit]; omega)]
      subst hde
      have FIN : Hid (OwnAt wr g r i x1 (0, ownInit i) ∧ Kept (Two g r) w wr) := Lib.hid ⟨⟨hb, hr, hd⟩, hk⟩
      clear hpre hd hr hb hk
      go_wp2_with fail
      refine bodyPost_end (results_none rfl _ _ _) rfl ?_
      exact ⟨rfl, FIN.out⟩

theorem ownAll_count (n : Nat) (ws : List (List UInt8)) : (ownAll n ws).1 = ws.flatten.length := by
  unfold ownAll
  have h : ∀ cs : Nat × List UInt8, (ws.foldl (ownRun n) cs).1 = cs.1 + ws.flatten.length := by
    induction ws with
    | nil => intro cs; rfl
    | cons p ws ih => intro cs; rw [List.foldl_cons, ih, ownRun_count, List.flatten_cons, List.length_append]; omega
  rw [h]
  exact Nat.zero_add _

/-- What the own hash's methods do. -/
theorem ownHasher (g r n : Nat) (x1 : Value) (hn1 : 1 ≤ n) (hn : n ≤ 16) : Hasher 15 44 43 g (Two g r) (fun _ => False) n (fun w => ∃ cs, OwnAt w g r n x1 cs) (fun w ws => OwnAt w g r n x1 (ownAll n ws)) (ownF n) where
  flen := fun ws => by unfold ownF; rw [List.length_map, ownAll_length]
  stAny := fun h => ⟨_, h⟩
  anyKept := fun ⟨cs, h⟩ k hs => ⟨cs, h.kept k (hs g (.inl (.inl rfl))) (hs r (.inl (.inr rfl)))⟩
  stKept := fun h k hs => h.kept k (hs g (.inl (.inl rfl))) (hs r (.inl (.inr rfl)))
  reset := fun w ⟨cs, h⟩ => ownReset_all g r n x1 _ cs.2 w h.1 h.2.1 h.2.2 hn
  write := fun w ws A c p h hp hA _ hpl hl => by
    rw [ownAll_snoc]
    exact ownWrite_any g r n x1 _ A c p w h hp (fun a e h2 => hA a e (.inl h2)) hn1 hn (by omega) (by rw [ownAll_count]; omega)
  sum := fun w ws N v xs h hown hN hlt hxs hl => ownSum_any g r n N x1 _ v xs w h hown hN (hlt g (.inl (.inl rfl))) (hlt r (.inl (.inr rfl))) hxs hn

end Go.Proofs.Ytgkfnmmajehobaa
