/-
  bigmod.Nat: Mul for even moduli of fewer than 16 words, SetUint.
-/
import Derived.Test.YtdmpiecdpdknaaaGreatDoorGg
import Derived.Deep.RegionHeld3
namespace Go.Proofs.YtdmpiecdpdknaaaGreatDoor
open Go.RowKit

/-- The state of the product's loop. -/
def MulSt (g n i xv : Nat) (ys us : List Nat) (w wr : World) : Prop :=
  us.length = n + i ∧ Wd us ∧ val us = xv * val (ys.take i) ∧ Blk wr g 67 ((us ++ noughts (64 - n - i)).map U).toArray ∧ Kept NoBlk w wr

theorem noughts_cons (k : Nat) : noughts (k + 1) = 0 :: noughts k := by unfold noughts; rw [List.replicate_succ]

theorem MulSt.step {g n i xv y c : Nat} {ys us pre zs zs' : List Nat} {w wr w2 w3 : World} (h : MulSt g n i xv ys us w wr) (hg : w.heap.size ≤ g) (hi : i < n) (hn : n ≤ 32) (hy : ys[i]? = some y) (hus : us = pre ++ zs) (hp : pre.length = i) (hz : zs.length = n)
    (hz' : zs'.length = n) (wz : Wd zs') (hc : c < 18446744073709551616) (hv : val zs' + Pw n * c = val zs + xv * y)
    (hb : Blk w2 g 67 ((pre ++ zs' ++ noughts (64 - n - i)).map U).toArray) (hk : Kept NoBlk w w2) (hw : w3 = w2.setCell ⟨g, n + i, none⟩ (.int .u64 (c : Int))) :
    MulSt g n (i + 1) xv ys (pre ++ zs' ++ [c]) w w3 := by
  subst hw
  obtain ⟨h1, h2, h3, h4, h5⟩ := h
  refine ⟨by simp [hp, hz']; omega, Wd.snoc (Wd.app (by rw [hus] at h2; exact h2.left) wz) hc, ?_, ?_, hk.setNew hg _ _⟩
  · obtain ⟨hil, rfl⟩ := List.getElem?_eq_some_iff.1 hy
    rw [val_take_succ ys i hil, Nat.mul_add, ← h3, hus, val_snoc, val_append, val_append, List.length_append, hp, hz', Nat.mul_left_comm xv]
    have e : Pw (i + n) * c = Pw i * (Pw n * c) := by rw [Pw_add, Nat.mul_assoc]
    rw [e, Nat.add_assoc, ← Nat.mul_add, hv, Nat.mul_add, Nat.add_assoc]
  · have := hb.set_ (n + i) (.int .u64 (c : Int))
    rw [List.setIfInBounds_toArray] at this
    have e : ((pre ++ zs' ++ noughts (64 - n - i)).map U).set (n + i) (.int .u64 (c : Int)) = ((pre ++ zs' ++ [c] ++ noughts (64 - n - (i + 1))).map U) := by
      rw [show 64 - n - i = (64 - n - (i + 1)) + 1 by omega, noughts_cons, List.map_append, List.set_append_right _ _ (by simp [hp, hz']; omega)]
      have e0 : n + i - ((pre ++ zs').map U).length = 0 := by simp [hp, hz']; omega
      rw [e0]
      simp [U]
    rw [e] at this
    exact this

set_option maxHeartbeats 1600000 in
set_option maxRecDepth 8000 in
theorem mulEven_nm (p p' q pn pr n m v v' : Nat) (w : World) (hx : Nm w p n v) (hy : Nm w p' n v') (hm : Md w q pn pr n m) (he : m % 2 = 0) (hpn : pn ≠ p) (hpr : pr ≠ p) (h16 : n < 16) :
    Calls Tryz.prog 66 #[.pointer (some ⟨p, 0, none⟩), .pointer (some ⟨p', 0, none⟩), .pointer (some ⟨q, 0, none⟩)] w (NmOut p n (v * v' % m) w) := by
  have c1 := hm.flag.1
  rw [he, show (0 == 1) = false from rfl] at c1
  have c0 := hm.flag.2.1
  have hn1 := hm.2.1
  obtain ⟨xs, rx, x1, x2, x3, x4, x5⟩ := hx.open_
  obtain ⟨ys, ry, y1, y2, y3, y4, y5⟩ := hy.open_
  obtain ⟨zs, rz, z1, z2, z3, z4, z5⟩ := hm.2.2.2.1.open_
  have cx := x1.cell
  have cy := y1.cell
  have cz := z1.cell
  rw [x4] at cx
  rw [y4] at cy
  rw [z4] at cz
  rw [x3] at cx
  rw [y3] at cy
  rw [z3] at cz
  obtain ⟨g, hg⟩ : ∃ g, w.heap.size = g := ⟨_, rfl⟩
  have hmk0 : ∀ w' : World, (Instr.makeSlice 89 (.int .i64 0) (.int .i64 64)).run Tryz.prog w' = .ok (.slice (some ⟨w'.heap.size, 0, none⟩) 0 64) (w'.alloc (.cells (noughtRow 64) 67)) := fun w' => make_words w' 0 64 (by decide) (by decide)
  have e16 : ((n : Int) == 16) = false := beq_eq_false_iff_ne.2 (by omega)
  have e24 : ((n : Int) == 24) = false := beq_eq_false_iff_ne.2 (by omega)
  have e32 : ((n : Int) == 32) = false := beq_eq_false_iff_ne.2 (by omega)
  obtain ⟨w1, hw1⟩ : ∃ w1, w.alloc (.cells (noughtRow 64) 67) = w1 := ⟨_, rfl⟩
  have START : Hid (MulSt g n 0 v ys (noughts n) w w1) := Lib.hid (by
    refine ⟨by rw [noughts_length]; omega, noughts_wd n, by simp [val_noughts, val], ?_, by rw [← hw1]; exact (Kept.refl _ _).alloc _⟩
    rw [← hw1, ← hg]
    have e : (noughts n ++ noughts (64 - n - 0)).map U = (List.replicate 64 0).map U := by
      unfold noughts; rw [List.replicate_append_replicate, show n + (64 - n - 0) = 64 by omega]
    rw [e]; exact Blk.new w _ _)
  have h64i : (n : Int) * 2 ≤ 64 := by omega
  have hn32 : (n : Int) ≤ 32 := by omega
  have X1 := Lib.hid x1
  have Y1 := Lib.hid y1
  have X3 := Lib.hid x3
  have Y3 := Lib.hid y3
  have X4 := Lib.hid x4
  have X5 := Lib.hid x5
  have Y5 := Lib.hid y5
  have HX := Lib.hid hx
  have HM := Lib.hid hm
  have GB := Lib.hid hg
  have hpl := hx.lt
  have hyl := y1.lt
  have hxl := x1.lt
  clear hx hy hm he x1 y1 x3 y3 x4 y4 x5 y5 z1 z2 z3 z4 z5
  go_enter Tryz.func66, Tryz.ntmps66
  go_wp2_with fail
  go_loopw [12] (fun iv wr => ∃ (i : Nat) (us : List Nat), i ≤ n ∧ iv = .int .i64 (i : Int) ∧ MulSt g n i v ys us w wr) (fun iv _ => n - (intOf iv).toNat)
  case atStart => exact ⟨0, noughts n, Nat.zero_le _, rfl, START.out⟩
  case round =>
    obtain ⟨i, us, hi, rfl, hst⟩ := hrel
    rcases Nat.lt_or_ge i n with hlt | hge
    · obtain ⟨y, hyi⟩ : ∃ y, ys[i]? = some y := ⟨_, List.getElem?_eq_getElem (by rw [Y3.out]; omega)⟩
      obtain ⟨hil, hyv⟩ := List.getElem?_eq_some_iff.1 hyi
      have cyi : wr.cell? ⟨p' - 1, i, none⟩ = some (.int .u64 (y : Int)) := by rw [← hyv]; exact (Y1.out.still hst.2.2.2.2).limb i hil
      have hyw : y < 18446744073709551616 := by rw [← hyv]; exact Y1.out.2.2.1.get i hil
      obtain ⟨pre, zs, hus, hpre, hzl⟩ : ∃ pre zs, us = pre ++ zs ∧ pre.length = i ∧ zs.length = n := ⟨us.take i, us.drop i, (List.take_append_drop i us).symm, by rw [List.length_take, hst.1]; omega, by rw [List.length_drop, hst.1]; omega⟩
      have hb0 := hst.2.2.2.1
      have hgl := hb0.lt
      rw [hus] at hb0
      have hwd := hst.2.1
      rw [hus] at hwd
      have m1 := addMulVVW_any g i (64 - i) (p - 1) 0 n 32 y pre zs (noughts (64 - n - i)) xs wr.drew hpre hb0 (X1.out.still hst.2.2.2.2).words (by have := GB.out; omega) (by rw [hzl, X3.out]) (by rw [X3.out]; exact hn1) (by rw [X3.out]; exact Nat.le_refl _) (by omega) hwd.right X1.out.2.2.1 hyw
      rw [X3.out, X5.out] at m1
      have hii : (i : Int) < (n : Int) := by omega
      have hni : ¬ 64 = i := by omega
      have hnn : (n : Int) + (i : Int) < (n : Int) * 2 := by omega
      have hn2 : (n : Int) + (i : Int) ≤ 64 := by omega
      have hsub : n + i - i = n := by omega
      have hrow : ∀ (vs : List Nat) (w2 : World), vs.length = n → Blk w2 g 67 ((pre ++ vs ++ noughts (64 - n - i)).map U).toArray → w2.cell? ⟨g, n + i, none⟩ = some (.int .u64 0) ∧ w2.frozen? ⟨g, n + i, none⟩ = false := by
        intro vs w2 hv hb
        refine ⟨hb.cellIs ?_, hb.frozen _⟩
        have e0 : n + i - (pre ++ vs).length = 0 := by simp [hpre, hv]; omega
        rw [List.getElem?_toArray, List.getElem?_map, List.getElem?_append_right (by simp [hpre, hv]; omega), e0, show 64 - n - i = (64 - n - i - 1) + 1 by omega, noughts_cons]
        rfl
      have hw1 : IntKind.i64.wrap ((n : Int) + (i : Int)) = (n : Int) + (i : Int) := IntWalk.i64_in _ (by omega)
      have hw2 : ((n : Int) + (i : Int)).toNat = n + i := by omega
      have hw3 : i ≤ n + i := by omega
      have hw4 : 0 ≤ (n : Int) + (i : Int) := by omega
      have hw5 : (i : Int) ≤ (n : Int) + (i : Int) := by omega
      have hsz : p' - 1 < wr.heap.size := Nat.lt_of_lt_of_le hyl.2 hst.2.2.2.2.size
      have hpg : p' - 1 ≠ g := by have := GB.out; omega
      have M1 := Lib.hid m1
      have HST := Lib.hid hst
      have HROW := Lib.hid hrow
      have HUS := Lib.hid hus
      have HYI := Lib.hid hyi
      have HB0 := Lib.hid hb0
      have HPRE := Lib.hid hpre
      have HZL := Lib.hid hzl
      clear m1 hst hrow hus hyi hb0 hpre hzl hwd hyv
      go_wp2_with fail
      go_region_held3 (fun w' => w'.cell? ⟨p' - 1, i, none⟩ = some (.int .u64 (y : Int))) (go_keep) (first
        | (go_at_call 94; refine M1.out.mono ?_; rintro e w2 ⟨zs', c, rfl, hc, hz', wz, hv, hb2, k2'⟩; have k2 : Kept (OneBlk g) wr w2 := ((Kept.refl (OneBlk g) wr).drew).trans k2'; have cyi2 : w2.cell? ⟨p' - 1, i, none⟩ = some (.int .u64 (y : Int)) := (k2.cell (p := ⟨p' - 1, i, none⟩) hsz hpg).trans cyi; obtain ⟨ct, ft⟩ := HROW.out zs' w2 hz' hb2; have cyi3 : (w2.setCell ⟨g, n + i, none⟩ (.int .u64 (c : Int))).cell? ⟨p' - 1, i, none⟩ = some (.int .u64 (y : Int)) := ((k2.setOne (n + i) (.int .u64 (c : Int))).cell (p := ⟨p' - 1, i, none⟩) hsz hpg).trans cyi))
      all_goals
        have hst2 : ∀ w3, w3 = w2.setCell ⟨g, n + i, none⟩ (.int .u64 (c : Int)) → MulSt g n (i + 1) v ys (pre ++ zs' ++ [c]) w w3 := fun w3 hw =>
          HST.out.step (by have := GB.out; omega) hlt (by omega) HYI.out HUS.out HPRE.out HZL.out hz' wz hc hv hb2 (HST.out.2.2.2.2.fresh k2 (by have := GB.out; omega)) hw
        have ST2 := Lib.hid hst2
        clear hst2 hb2 k2' k2 hv wz hz'
        go_wp2_with fail
        go_roundw
        case rel => exact ⟨i + 1, pre ++ zs' ++ [c], by omega, by go_num, ST2.out _ rfl⟩
        case measure => first | (simp [intOf]; done) | (simp [intOf]; omega)
    · obtain rfl : i = n := by omega
      have hnat : ∀ w', w' = wr.alloc (.cells #[.slice (some ⟨g, 0, none⟩) (i * 2) 64] 91) → NatAt w' wr.heap.size g us (noughts (64 - i - i)) ∧ Kept NoBlk w w' := by
        rintro w' rfl
        refine ⟨⟨?_, hst.2.2.2.1.alloc _, hst.2.1, noughts_wd _⟩, hst.2.2.2.2.alloc _⟩
        have hb := Blk.new wr 91 #[.slice (some ⟨g, 0, none⟩) (i * 2) 64]
        rw [hst.1, noughts_length, show i + i = i * 2 by omega, show i * 2 + (64 - i - i) = 64 by omega]
        exact hb
      obtain ⟨w4, hw4⟩ : ∃ w4, wr.alloc (.cells #[.slice (some ⟨g, 0, none⟩) (i * 2) 64] 91) = w4 := ⟨_, rfl⟩
      obtain ⟨hna, hk4⟩ := hnat w4 hw4.symm
      have hpx : wr.heap.size ≠ p := by have := hst.2.2.2.2.size; omega
      have hgp : g ≠ p - 1 := by have := GB.out; omega
      have hmod := mod_any p q pn pr i v i m wr.heap.size g us (noughts (64 - i - i)) w4 (HX.out.still hk4) (HM.out.still hk4) hpn hpr hna hpx hgp (by rw [hst.1, noughts_length]; omega)
      have hval : val us = v * v' := by rw [hst.2.2.1, List.take_of_length_le (by rw [Y3.out]; exact Nat.le_refl _), Y5.out]
      rw [hval] at hmod
      have HMOD := Lib.hid hmod
      have K4 := Lib.hid hk4
      have hnn : ¬ (i : Int) < (i : Int) := by omega
      clear hnat hna hk4 hmod hval hst
      go_wp2_with fail
      refine HMOD.out.mono ?_
      rintro e w5 ⟨rfl, h5, k5⟩
      have hfin : NmOut p i (v * v' % m) w (.returned (.pointer (some ⟨p, 0, none⟩))) w5 := ⟨rfl, h5, (K4.out.mono (fun _ _ e => e.elim)).trans k5⟩
      have FIN := Lib.hid hfin
      clear hfin h5 k5 HMOD
      go_wp2_with fail
      go_ret
      exact FIN.out

theorem reset_nm (p n0 v n : Nat) (w : World) (hx : Nm w p n0 v) (hn : n ≤ 32) : Calls Tryz.prog 77 #[.pointer (some ⟨p, 0, none⟩), .int .i64 (n : Int)] w (NmOut p n 0 w) := by
  obtain ⟨xs, rest, x1, x2, x3, x4, x5⟩ := hx.open_
  refine (reset_any p (p - 1) n xs rest w x1 (by omega)).mono ?_
  intro e w' hs
  exact hs.nm x2 x4 hn (noughts_length n) (val_noughts _)

theorem setUint_nm (p n0 v y : Nat) (w : World) (hx : Nm w p n0 v) (hy : y < 18446744073709551616) : Calls Tryz.prog 89 #[.pointer (some ⟨p, 0, none⟩), .int .u64 (y : Int)] w (NmOut p 1 y w) := by
  have HR := Lib.hid (reset_nm p n0 v 1 w hx (by omega))
  have hpl := hx.lt
  clear hx
  go_enter Tryz.func89, Tryz.ntmps89
  go_wp2_with fail
  refine HR.out.mono ?_
  rintro e w1 ⟨rfl, h1, k1⟩
  obtain ⟨rest, a, b, c⟩ := h1.nought
  obtain ⟨cp, c1, c2, f2⟩ := h1.limb0 (Nat.le_refl _)
  have hset := a.setLimb 0 y (by rw [noughts_length]; omega) hy
  have hfin : ∀ w', w' = w1.setCell ⟨p - 1, 0, none⟩ (.int .u64 (y : Int)) → NmOut p 1 y w (.returned (.pointer (some ⟨p, 0, none⟩))) w' := by
    rintro w' rfl
    refine ⟨rfl, ⟨_, rest, hset, b, by rw [List.length_set, noughts_length], c, ?_⟩, k1.setCell _ _ (fun _ => .inr rfl)⟩
    simp [noughts, val]
  have FIN := Lib.hid hfin
  clear hfin hset h1 k1 a b c HR
  go_wp2_with fail
  go_ret
  exact FIN.out _ rfl

end Go.Proofs.YtdmpiecdpdknaaaGreatDoor
