/-
  bigmod.addMulVVW.
-/
import Derived.Test.YtmheoenieaemmaaDoorNatMod
namespace Go.Proofs.YtmheoenieaemmaaDoor
open Go.RowKit

/-- One step of the multiplication by a word. -/
theorem mul_step (x y z c : Nat) (hx : x < 18446744073709551616) (hy : y < 18446744073709551616) (hz : z < 18446744073709551616) (hc : c < 18446744073709551616) :
    ∃ hi lo lo1 c1 lo2 c2 : Nat, x * y = lo + 18446744073709551616 * hi ∧ lo < 18446744073709551616 ∧ lo + z + 0 = lo1 + 18446744073709551616 * c1 ∧ lo1 < 18446744073709551616 ∧ c1 ≤ 1 ∧ hi + 0 + c1 < 18446744073709551616 ∧
      lo1 + c + 0 = lo2 + 18446744073709551616 * c2 ∧ lo2 < 18446744073709551616 ∧ c2 ≤ 1 ∧ hi + c1 + c2 < 18446744073709551616 ∧ lo2 + 18446744073709551616 * (hi + c1 + c2) = x * y + z + c := by
  have hb : x * y ≤ 18446744073709551615 * 18446744073709551615 := Nat.mul_le_mul (by omega) (by omega)
  obtain ⟨p, hp⟩ : ∃ p, x * y = p := ⟨_, rfl⟩
  rw [hp] at hb ⊢
  refine ⟨p / 18446744073709551616, p % 18446744073709551616, (p % 18446744073709551616 + z) % 18446744073709551616, (p % 18446744073709551616 + z) / 18446744073709551616,
    ((p % 18446744073709551616 + z) % 18446744073709551616 + c) % 18446744073709551616, ((p % 18446744073709551616 + z) % 18446744073709551616 + c) / 18446744073709551616, ?_, ?_, ?_, ?_, ?_, ?_, ?_, ?_, ?_, ?_, ?_⟩ <;> omega

set_option maxHeartbeats 800000 in
theorem addMulVVW_any (bz oz cz bx ox lx cx y : Nat) (pre zs post xs : List Nat) (w : World) (hpre : pre.length = oz) (hz : Blk w bz 68 ((pre ++ zs ++ post).map U).toArray) (hx : At w (some ⟨bx, ox, none⟩) (xs.map U)) (hb : bx ≠ bz)
    (hl : zs.length = xs.length) (hl1 : 1 ≤ xs.length) (hlx : xs.length ≤ lx) (hn : lx ≤ 1000000) (wz : Wd zs) (wx : Wd xs) (hy : y < 18446744073709551616) :
    Calls Tryd.prog 112 #[.slice (some ⟨bz, oz, none⟩) xs.length cz, .slice (some ⟨bx, ox, none⟩) lx cx, .int .u64 y] w fun e w' =>
      ∃ (us : List Nat) (c : Nat), e = .returned (.int .u64 c) ∧ c < 18446744073709551616 ∧ us.length = xs.length ∧ Wd us ∧ val us + Pw xs.length * c = val zs + val xs * y ∧ Blk w' bz 68 ((pre ++ us ++ post).map U).toArray ∧ Kept (OneBlk bz) w w' := by
  obtain ⟨b0, o0, e0, hbl, hc⟩ := hx.at_ (k := 0) (by simp; omega)
  cases e0
  have hmid : Mid w bz pre (pre ++ zs ++ post) oz := by
    unfold Mid
    rw [List.append_assoc, List.drop_left' hpre, ← List.append_assoc]
    exact hz
  have hcl : w.cell? ⟨bx, ox + (xs.length - 1), none⟩ = some (.int .u64 (xs[xs.length - 1] : Int)) := hc _ _ (by rw [List.getElem?_map, List.getElem?_eq_getElem (by omega)]; rfl)
  have hi1 : (xs.length : Int) - 1 = ((xs.length - 1 : Nat) : Int) := by omega
  have hi2 : ((xs.length - 1 : Nat) : Int) < (lx : Int) := by omega
  have HC := Lib.hid hc
  have HMID := Lib.hid hmid
  have HL := Lib.hid hl
  have HPRE := Lib.hid hpre
  have HWZ := Lib.hid wz
  have HWX := Lib.hid wx
  clear hc hmid hz hx hl hpre wz wx
  go_enter Tryd.func112, Tryd.ntmps112
  go_wp2_with fail
  clear hcl
  go_loopw [6, 19] (fun cv iv wr => ∃ (k : Nat) (us : List Nat) (c : Nat), k ≤ xs.length ∧ cv = .int .u64 c ∧ iv = .int .i64 k ∧ c < 18446744073709551616 ∧ us.length = k ∧ Wd us ∧ val us + Pw k * c = val (zs.take k) + val (xs.take k) * y ∧ Mid wr bz (pre ++ us) (pre ++ zs ++ post) (oz + k) ∧ Kept (OneBlk bz) w wr) (fun _ i _ => xs.length - (intOf i).toNat)
  case atStart => exact ⟨0, [], 0, Nat.zero_le _, rfl, rfl, by decide, rfl, Wd.nil, by simp [val], by simpa using HMID.out, Kept.refl _ _⟩
  case round =>
    obtain ⟨k, us, c, hk, rfl, rfl, hc, hu, hwu, hv, hm, hkept⟩ := hrel
    by_cases hlt : k < xs.length
    · have hkz : k < zs.length := by have := HL.out; omega
      have hos : oz + k < (pre ++ zs ++ post).length := by simp [HPRE.out]; omega
      have hul : (pre ++ us).length = oz + k := by rw [List.length_append, HPRE.out, hu]
      have cz0 := hm.cell hul hos
      have hel : (pre ++ zs ++ post)[oz + k] = zs[k] := by
        rw [List.getElem_append_left (by simp [HPRE.out]; omega), List.getElem_append_right (by have := HPRE.out; omega)]
        congr 1
        have := HPRE.out; omega
      rw [hel] at cz0
      have cx0 : wr.cell? ⟨bx, ox + k, none⟩ = some (.int .u64 (xs[k] : Int)) :=
        (hkept.cell (p := ⟨bx, ox + k, none⟩) hbl hb).trans (HC.out _ _ (by rw [List.getElem?_map, List.getElem?_eq_getElem hlt]; rfl))
      obtain ⟨hi, lo, lo1, c1, lo2, c2, e1, l1, e2, l2, l3, l4, e3, l5, l6, l7, e4⟩ := mul_step xs[k] y zs[k] c (HWX.out.get k hlt) hy (HWZ.out.get k hkz) hc
      have m1 := bitsMul_is xs[k] y hi lo (HWX.out.get k hlt) hy l1 e1
      have m2 := bitsAdd_is lo zs[k] 0 lo1 c1 (by omega) l2 e2
      have m3 := bitsAdd_is hi 0 c1 (hi + c1) 0 l3 (by omega) (by omega)
      have m4 := bitsAdd_is lo1 c 0 lo2 c2 (by omega) l5 e3
      have m5 := bitsAdd_is (hi + c1) 0 c2 (hi + c1 + c2) 0 l6 (by omega) (by omega)
      have hv' : val (us ++ [lo2]) + Pw (k + 1) * (hi + c1 + c2) = val (zs.take (k + 1)) + val (xs.take (k + 1)) * y := by
        rw [val_snoc, val_take_succ zs k hkz, val_take_succ xs k hlt, hu, Pw_succ, Nat.add_mul, Nat.mul_assoc (Pw k) xs[k] y]
        have : Pw k * lo2 + Pw k * (18446744073709551616 * (hi + c1 + c2)) = Pw k * (xs[k] * y) + Pw k * zs[k] + Pw k * c := by
          rw [← Nat.mul_add, ← Nat.mul_add, ← Nat.mul_add, e4]
        rw [Nat.mul_comm 18446744073709551616 (Pw k), Nat.mul_assoc (Pw k) 18446744073709551616]; omega
      have hf := hm.frozen (oz + k)
      have hset := fun w' h => hm.set hul hos lo2 (w' := w') h
      rw [List.append_assoc, Nat.add_assoc] at hset
      obtain ⟨h1, eh1⟩ : ∃ h1, hi + c1 = h1 := ⟨_, rfl⟩
      obtain ⟨h2, eh2⟩ : ∃ h2, h1 + c2 = h2 := ⟨_, rfl⟩
      rw [eh1] at m3 m5 l7 hv'
      rw [eh2] at m5 l7 hv'
      have M1 := Lib.hid m1
      have M2 := Lib.hid m2
      have M3 := Lib.hid m3
      have M4 := Lib.hid m4
      have M5 := Lib.hid m5
      have HV := Lib.hid hv'
      have HSET := Lib.hid hset
      have HU := Lib.hid hu
      have HWU := Lib.hid (hwu.snoc l5)
      have HK := Lib.hid hkept
      clear m1 m2 m3 m4 m5 hv' hset hu hwu hkept hm hv e1 e2 e3 e4 eh1 eh2 hel hul l4
      go_wp2_with fail
      refine (M1.out _).mono ?_
      rintro e w' ⟨rfl, rfl⟩
      go_wp2_with fail
      refine (M2.out _).mono ?_
      rintro e w' ⟨rfl, rfl⟩
      go_wp2_with fail
      refine (M3.out _).mono ?_
      rintro e w' ⟨rfl, rfl⟩
      go_wp2_with fail
      refine (M4.out _).mono ?_
      rintro e w' ⟨rfl, rfl⟩
      go_wp2_with fail
      refine (M5.out _).mono ?_
      rintro e w' ⟨rfl, rfl⟩
      go_wp2_with fail
      go_roundw
      case rel => exact ⟨k + 1, us ++ [lo2], h2, by omega, rfl, by go_num, l7, by rw [List.length_append, HU.out]; rfl, HWU.out, HV.out, HSET.out _ rfl, HK.out.setOne _ _⟩
      case measure => simp [intOf]; omega
    · obtain rfl : k = xs.length := by omega
      have hl := HL.out
      rw [List.take_of_length_le (Nat.le_refl _), ← hl, List.take_of_length_le (Nat.le_refl _)] at hv
      rw [hl] at hv
      have hfin : Blk wr bz 68 ((pre ++ us ++ post).map U).toArray := by
        have h := hm
        unfold Mid at h
        rw [List.drop_left' (by simp [HPRE.out]; omega)] at h
        exact h
      have FIN := Lib.hid hfin
      have HV := Lib.hid hv
      have HK := Lib.hid hkept
      have HWU := Lib.hid hwu
      have HU := Lib.hid hu
      clear hm hkept hv hl hfin hwu hu
      go_wp2_with fail
      go_ret
      exact ⟨us, c, rfl, hc, HU.out, HWU.out, HV.out, FIN.out, HK.out⟩

end Go.Proofs.YtmheoenieaemmaaDoor
