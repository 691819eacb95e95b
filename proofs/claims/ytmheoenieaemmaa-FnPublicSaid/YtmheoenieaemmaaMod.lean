/-
  bigmod.Nat.Mod.
-/
import Derived.Test.YtmheoenieaemmaaShift
namespace Go.Proofs.Ytmheoenieaemmaa
open Go.RowKit

theorem shiftIn_nm (p q pn pr n m v y : Nat) (w : World) (hx : Nm w p n v) (hm : Md w q pn pr n m) (hpn : pn ≠ p) (hy : y < 18446744073709551616) (hv : v < m) :
    Calls Try.prog 89 #[.pointer (some ⟨p, 0, none⟩), .int .u64 y, .pointer (some ⟨q, 0, none⟩)] w (NmOut p n ((v * 18446744073709551616 + y) % m) w) := by
  have h32 := hm.n32
  obtain ⟨ms, mr, mi, rv, h, a1, a2, a3, _⟩ := hm.modAt
  have hpm := hm.ltq.2.2
  obtain ⟨xs, rest, x1, x2, x3, x4, x5⟩ := hx.open_
  refine (shiftIn_any p (p - 1) q pn (pn - 1) n y xs rest ms mr _ mi rv w x1 h (by omega) x3 a1 (by omega) (by omega) hy (by omega)).mono ?_
  rintro e w' ⟨rfl, zs, z1, z2, z3, z4⟩
  exact ⟨rfl, ⟨zs, rest, z2, x2, z1, by omega, by rw [z4, x5, a3]⟩, At2.one p z3⟩

theorem noughts_snoc (k : Nat) : noughts (k + 1) = noughts k ++ [0] := by unfold noughts; rw [List.replicate_succ']
/-- The number while its topmost words are laid: t of c. -/
def topRow (xs : List Nat) (n c t : Nat) : List Nat := noughts (c - t) ++ (xs.drop (xs.length - t) ++ noughts (n - c))
theorem topRow_zero (xs : List Nat) (n c : Nat) (h : c ≤ n) : topRow xs n c 0 = noughts n := by
  unfold topRow noughts
  rw [Nat.sub_zero, Nat.sub_zero, List.drop_length, List.nil_append, List.replicate_append_replicate, Nat.add_sub_cancel' h]
theorem topRow_set (xs : List Nat) (n c t : Nat) (ht : t < c) (hc : c ≤ xs.length) : (topRow xs n c t).set (c - t - 1) (xs[xs.length - t - 1]'(by omega)) = topRow xs n c (t + 1) := by
  unfold topRow
  obtain ⟨d, hd⟩ : ∃ d, c - t = d + 1 := ⟨c - t - 1, by omega⟩
  rw [hd, show c - (t + 1) = d by omega, noughts_snoc, Nat.add_sub_cancel, List.append_assoc, List.set_append_right _ _ (by rw [noughts_length]; omega), noughts_length, Nat.sub_self]
  rw [List.cons_append, List.nil_append, List.set_cons_zero, show xs.length - (t + 1) = xs.length - t - 1 by omega]
  rw [List.drop_eq_getElem_cons (show xs.length - t - 1 < xs.length by omega), List.cons_append, show xs.length - t - 1 + 1 = xs.length - t by omega]
theorem topRow_length (xs : List Nat) (n c t : Nat) (ht : t ≤ c) (hc : c ≤ xs.length) (hn : c ≤ n) : (topRow xs n c t).length = n := by
  unfold topRow
  rw [List.length_append, List.length_append, noughts_length, noughts_length, List.length_drop]; omega
theorem topRow_val (xs : List Nat) (n c : Nat) : val (topRow xs n c c) = val (xs.drop (xs.length - c)) := by
  unfold topRow
  rw [Nat.sub_self, show noughts 0 = [] from rfl, List.nil_append, val_append, val_noughts, Nat.mul_zero, Nat.add_zero]
theorem val_drop_step (xs : List Nat) (i : Nat) (hi : i < xs.length) : val (xs.drop i) = val (xs.drop (i + 1)) * 18446744073709551616 + xs[i] := by
  rw [List.drop_eq_getElem_cons hi, val]; omega

set_option maxHeartbeats 1000000 in
theorem mod_any (p q pn pr n0 v0 n m px bx : Nat) (xs restx : List Nat) (w : World) (hp : Nm w p n0 v0) (hm : Md w q pn pr n m) (hpn : pn ≠ p) (hpr : pr ≠ p) (hx : NatAt w px bx xs restx) (hxp : px ≠ p) (hxb : bx ≠ p - 1) (hxn : xs.length + restx.length ≤ 1000000) :
    Calls Try.prog 69 #[.pointer (some ⟨p, 0, none⟩), .pointer (some ⟨px, 0, none⟩), .pointer (some ⟨q, 0, none⟩)] w (NmOut p n (val xs % m) w) := by
  have hr := resetFor_nm p q pn pr n0 v0 n m w hp hm
  have h32 := hm.n32
  have hn1 := hm.2.1
  have hge := hm.2.2.1
  obtain ⟨c, hc⟩ : ∃ c, min (n - 1) xs.length = c := ⟨_, rfl⟩
  have hc1 : c ≤ n - 1 ∧ c ≤ xs.length ∧ (c = n - 1 ∨ c = xs.length) := by omega
  have hsmall : val (xs.drop (xs.length - c)) < m := by
    have h1 := val_lt _ (hx.2.2.1.drop (xs.length - c))
    rw [List.length_drop] at h1
    have h2 := Pw_le (show xs.length - (xs.length - c) ≤ n - 1 by omega)
    omega
  have HP := Lib.hid hp
  have HM := Lib.hid hm
  have HX := Lib.hid hx
  have HR := Lib.hid hr
  have HS := Lib.hid hsmall
  clear hp hm hx hr hge hc hsmall
  go_enter Try.func69, Try.ntmps69
  go_wp2_with fail
  refine HR.out.mono ?_
  rintro e w1 ⟨rfl, h1, k1⟩
  have off : ∀ wr : World, Kept (At2 p) w wr → NatAt wr px bx xs restx := fun wr k => by
    obtain ⟨ys, rest, hy, hy1, _⟩ := HP.out
    exact HX.out.away hy hxp (by omega) k
  have offm : ∀ wr : World, Kept (At2 p) w wr → Md wr q pn pr n m := fun wr k => HM.out.away HP.out hpn hpr k
  have hx1 := off w1 k1
  have hm1 := offm w1 k1
  have c1 := hx1.cell
  obtain ⟨ms, mr, mi, rv, hma, ma1, ma2, _⟩ := hm1.modAt
  have c2 := hma.ptr
  have c3 := hma.2.cell
  rw [ma1] at c3
  have OFF := Lib.hid off
  have OFFM := Lib.hid offm
  have H1 := Lib.hid h1
  have K1 := Lib.hid k1
  clear off offm hx1 hm1 hma h1 k1 HR
  by_cases hcs : (xs.length : Int) - 1 < (n : Int) - 2
  all_goals
    go_wp2_with fail
    clear c1 c2 c3
    go_loopw [7, 9] (fun iv jv wr => ∃ t : Nat, t ≤ c ∧ iv = .int .i64 ((xs.length : Int) - 1 - t) ∧ jv = .int .i64 ((c : Int) - 1 - t) ∧ (∃ rest, NatAt wr p (p - 1) (topRow xs n c t) rest ∧ n + rest.length = 32) ∧ 1 ≤ p ∧ Kept (At2 p) w wr) (fun _ jv _ => (intOf jv + 1).toNat)
    case atStart =>
      obtain ⟨rest, a1, a2, a3⟩ := H1.out.nought
      exact ⟨0, Nat.zero_le _, by first | rfl | (congr 1; omega), by first | rfl | (congr 1; omega), ⟨rest, by rw [topRow_zero _ _ _ (by omega)]; exact a1, a3⟩, a2, K1.out⟩
    case round =>
      obtain ⟨t, ht, rfl, rfl, ⟨rest, ha, hrl⟩, hp1, hK⟩ := hrel
      by_cases hlt : t < c
      · have hix : xs.length - t - 1 < xs.length := by omega
        have hxr := OFF.out wr hK
        have c1 := hxr.cell
        have c2 := ha.cell
        rw [topRow_length xs n c t ht hc1.2.1 (by omega)] at c2
        have cx := hxr.limb (xs.length - t - 1) hix
        have cy := ha.limb (c - t - 1) (by rw [topRow_length xs n c t ht hc1.2.1 (by omega)]; omega)
        have fy := ha.2.1.frozen (c - t - 1)
        have e1 : (xs.length : Int) - 1 - (t : Int) = ((xs.length - t - 1 : Nat) : Int) := by omega
        have e2 : (c : Int) - 1 - (t : Int) = ((c - t - 1 : Nat) : Int) := by omega
        have hset := fun (w' : World) (hw : w' = (wr.setCell ⟨p - 1, c - t - 1, none⟩ (.int .u64 ((xs[xs.length - t - 1]'hix : Nat) : Int))).drew) => (show NatAt w' p (p - 1) (topRow xs n c (t + 1)) rest by
          subst hw
          rw [← topRow_set xs n c t hlt hc1.2.1]
          exact (ha.setLimb (c - t - 1) _ (by rw [topRow_length xs n c t ht hc1.2.1 (by omega)]; omega) (HX.out.2.2.1.get _ hix)).drew)
        obtain ⟨x, hx⟩ : ∃ x, xs[xs.length - t - 1]'hix = x := ⟨_, rfl⟩
        rw [hx] at cx hset
        obtain ⟨ii, hii⟩ : ∃ ii, xs.length - t - 1 = ii := ⟨_, rfl⟩
        obtain ⟨jj, hjj⟩ : ∃ jj, c - t - 1 = jj := ⟨_, rfl⟩
        obtain ⟨yv, hyv⟩ : ∃ yv, (topRow xs n c t)[c - t - 1]'(by rw [topRow_length xs n c t ht hc1.2.1 (by omega)]; omega) = yv := ⟨_, rfl⟩
        rw [hyv] at cy
        rw [hii] at cx e1
        rw [hjj] at cy fy e2 hset
        have e3 : (ii : Int) < (xs.length : Int) := by omega
        have e4 : (jj : Int) < (n : Int) := by omega
        have HSET := Lib.hid hset
        have HKK := Lib.hid hK
        have HII := Lib.hid hii
        have HJJ := Lib.hid hjj
        rw [e1, e2]
        clear hset hK ha hxr hx hii hjj hyv e1 e2 hix
        go_wp2_with fail
        go_region
        all_goals go_wp2_with fail
        all_goals
          go_roundw
          case rel => exact ⟨t + 1, by omega, by have := HII.out; first | rfl | (congr 1; omega), by have := HJJ.out; first | rfl | (congr 1; omega), ⟨rest, HSET.out _ rfl, hrl⟩, hp1, (HKK.out.setCell _ _ (fun _ => .inr rfl)).drew⟩
          case measure => have := HJJ.out; first | (simp [intOf]; done) | (simp [intOf]; omega)
      · obtain rfl : t = c := by omega
        have hv := topRow_val xs n t
        have hnm : Nm wr p n (val (xs.drop (xs.length - t)) % m) := ⟨_, rest, ha, hp1, topRow_length xs n t t (Nat.le_refl _) hc1.2.1 (by omega), hrl, by rw [hv, Nat.mod_eq_of_lt HS.out]⟩
        have HN := Lib.hid hnm
        have HKK := Lib.hid hK
        have hneg : ¬ (0 : Int) ≤ (t : Int) - 1 - (t : Int) := by omega
        clear hv hnm hK ha
        go_wp2_with fail
        go_loopw [7] (fun iv wr => ∃ i : Nat, i ≤ xs.length ∧ iv = .int .i64 ((i : Int) - 1) ∧ Nm wr p n (val (xs.drop i) % m) ∧ Kept (At2 p) w wr) (fun iv _ => (intOf iv + 1).toNat)
        case atStart => exact ⟨xs.length - t, by omega, by first | rfl | (congr 1; omega), HN.out, HKK.out⟩
        case round =>
          obtain ⟨i, hi, rfl, hN, hK⟩ := hrel
          rcases Nat.eq_zero_or_pos i with h0 | h0
          · subst h0
            have HN := Lib.hid hN
            have HKK := Lib.hid hK
            have hneg2 : ¬ (0 : Int) ≤ ((0 : Nat) : Int) - 1 := by omega
            clear hN hK
            go_wp2_with fail
            go_ret
            exact ⟨rfl, by have := HN.out; rw [List.drop_zero] at this; exact this, HKK.out⟩
          · obtain ⟨j, rfl⟩ : ∃ j, i = j + 1 := ⟨i - 1, by omega⟩
            have hj : j < xs.length := by omega
            have hxr := OFF.out wr hK
            have c1 := hxr.cell
            have cx := hxr.limb j hj
            have hstep := val_drop_step xs j hj
            obtain ⟨x, hx⟩ : ∃ x, xs[j] = x := ⟨_, rfl⟩
            have hxw : x < 18446744073709551616 := by rw [← hx]; exact HX.out.2.2.1.get j hj
            rw [hx] at cx hstep
            have hm0 : 0 < m := by have := HM.out.1; omega
            have hsh := shiftIn_nm p q pn pr n m _ x wr hN (OFFM.out wr hK) hpn hxw (Nat.mod_lt _ hm0)
            have hval : (val (xs.drop (j + 1)) % m * 18446744073709551616 + x) % m = val (xs.drop j) % m := by
              rw [hstep, Nat.add_mod, Nat.mod_mul_mod, ← Nat.add_mod]
            rw [hval] at hsh
            have HSH := Lib.hid hsh
            have HKK := Lib.hid hK
            have ej : ((j + 1 : Nat) : Int) - 1 = (j : Int) := by omega
            have ejl : (j : Int) < (xs.length : Int) := by omega
            clear hN hK hxr hx hstep hsh hval
            rw [ej]
            go_wp2_with fail
            refine HSH.out.mono ?_
            rintro e w3 ⟨rfl, hN, k3⟩
            have HN := Lib.hid hN
            have HK3 := Lib.hid (HKK.out.trans k3)
            clear hN k3 HSH
            go_wp2_with fail
            go_roundw
            case rel => exact ⟨j, by omega, by first | rfl | go_num, HN.out, HK3.out⟩
            case measure => first | (simp [intOf]; done) | (simp [intOf]; omega)

end Go.Proofs.Ytmheoenieaemmaa
