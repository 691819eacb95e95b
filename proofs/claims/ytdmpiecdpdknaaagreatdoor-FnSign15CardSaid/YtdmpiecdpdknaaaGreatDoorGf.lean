/-
  bigmod.Nat.Bytes.
  Numbers and moduli in memory, by their values: at most 32 words, their row just ahead of their header.
  bigmod's operations told by the numbers' values.
-/
import Derived.Test.YtdmpiecdpdknaaaGreatDoorGd
import Derived.Test.YtdmpiecdpdknaaaGreatDoorGe
import Derived.Test.YtdmpiecdpdknaaaGreatDoorNewMod
namespace Go.Proofs.YtdmpiecdpdknaaaGreatDoor
open Go.RowKit

theorem val_drop_head (xs : List Nat) (k : Nat) (hk : k < xs.length) (hw : Wd xs) : val xs / Pw k % 18446744073709551616 = xs[k] := by
  have e : val xs = val (xs.take k) + Pw k * val (xs.drop k) := by
    have := val_append (xs.take k) (xs.drop k)
    rw [List.take_append_drop, List.length_take, Nat.min_eq_left (by omega)] at this
    exact this
  have h1 := val_lt _ (hw.take k)
  rw [List.length_take, Nat.min_eq_left (by omega)] at h1
  rw [e, Nat.add_mul_div_left _ _ (Pw_pos k), Nat.div_eq_of_lt h1, Nat.zero_add, List.drop_eq_getElem_cons hk]
  rw [val]
  have := hw.get k hk
  omega

/-- A byte of the word: what is shifted out. -/
theorem word_shift (v k t : Nat) (ht : t < 8) : v / Pb (8 * k + t) % 256 = v / Pw k % 18446744073709551616 / Pb t % 256 := by
  rw [Pb_add, Pb_eight, ← Nat.div_div_eq_div_mul]
  generalize v / Pw k = u
  have e : (18446744073709551616 : Nat) = Pb 8 := rfl
  rw [e, digit_mod _ _ _ ht]

/-- What is left of the word k behind t bytes. -/
theorem left_zero (v k t S : Nat) (hv : v < Pb S) (h : S ≤ 8 * k + t) : v / Pw k % 18446744073709551616 / Pb t = 0 := by
  have h1 : v / Pw k < Pb t := by
    apply Nat.div_lt_of_lt_mul
    rw [← Pb_eight, ← Pb_add]
    exact Nat.lt_of_lt_of_le hv (Pb_le h)
  exact Nat.div_eq_of_lt (Nat.lt_of_le_of_lt (Nat.mod_le _ _) h1)

/-- The state of the inner loop. -/
def InSt (g S v k t : Nat) (i : Int) (w wr : World) : Prop :=
  (8 * k + t ≤ S ∧ i = (S : Int) - (8 * k + t : Nat) ∧ OutRow g S (8 * k + t) v w wr) ∨ (S ≤ 8 * k ∧ t = 0 ∧ i < 0 ∧ OutRow g S S v w wr)
/-- The state of the outer one. -/
def OutSt (g S v k : Nat) (i : Int) (w wr : World) : Prop :=
  (8 * k ≤ S ∧ i = (S : Int) - (8 * k : Nat) ∧ OutRow g S (8 * k) v w wr) ∨ (S ≤ 8 * k ∧ i < 0 ∧ OutRow g S S v w wr)

set_option maxHeartbeats 1000000 in
theorem bytes_any (p b q pn bn : Nat) (xs rest ms mr : List Nat) (od : Bool) (mi : Nat) (rv : Value) (S : Nat) (w : World) (hx : NatAt w p b xs rest) (hm : ModAt w q pn bn ms mr od mi rv) (hn : ms.length + mr.length ≤ 500000) (hnx : xs.length + rest.length ≤ 500000)
    (hS : (bitLen (val ms) + 7) / 8 = S) (hv : val xs < Pb S) (hSx : S ≤ 8 * xs.length) :
    Calls Tryz.prog 47 #[.pointer (some ⟨p, 0, none⟩), .pointer (some ⟨q, 0, none⟩)] w fun e w' =>
      e = .returned (.slice (some ⟨w.heap.size, 0, none⟩) S S) ∧ Blk w' w.heap.size 5 ((enc S (val xs)).map B).toArray ∧ Kept NoBlk w w' := by
  have hsz := modSize_any q pn bn ms mr od mi rv w hm (by omega)
  rw [hS] at hsz
  have hSl : S ≤ 4000000 := by
    have := bitLen_val_le ms hm.2.2.2.1
    omega
  have hmk := make_bytes w S (by omega)
  have c1 := hx.cell
  obtain ⟨v, hvv⟩ : ∃ v, val xs = v := ⟨_, rfl⟩
  rw [hvv] at hv ⊢
  have HX := Lib.hid hx
  have HSZ := Lib.hid hsz
  have HV := Lib.hid hv
  have HVV := Lib.hid hvv
  have hp := hx.lt
  have h0 : OutSt w.heap.size S v 0 (S : Int) w (w.alloc (.cells (zeroRow S) 5)) := by
    refine .inl ⟨by omega, by omega, ?_, (Kept.refl _ w).alloc _⟩
    rw [Nat.mul_zero, tailOf_zero]
    exact Blk.new w _ _
  have H0 := Lib.hid h0
  clear hx hm hsz hS hv hvv h0
  go_enter Tryz.func47, Tryz.ntmps47
  go_wp2_with fail
  refine HSZ.out.mono ?_
  rintro e w' ⟨rfl, rfl⟩
  clear HSZ
  go_wp2_with fail
  clear hmk c1
  go_loopw [5, 19] (fun iv kv wr => ∃ (i : Int) (k : Nat), k ≤ xs.length ∧ iv = .int .i64 i ∧ kv = .int .i64 (k : Int) ∧ i ≤ 4000000 ∧ -10000000 + (k : Int) * -9 ≤ i ∧ OutSt w.heap.size S v k i w wr) (fun _ kv _ => xs.length - (intOf kv).toNat)
  case atStart => exact ⟨S, 0, Nat.zero_le _, rfl, rfl, by omega, by omega, H0.out⟩
  case round =>
    obtain ⟨i, k, hk, rfl, rfl, hi1, hi2, hO⟩ := hrel
    have hK : Kept NoBlk w wr := by
      rcases hO with h | h
      · exact h.2.2.2
      · exact h.2.2.2
    clear H0
    by_cases hlt : k < xs.length
    · have cx := (HX.out.still hK).limb k hlt
      obtain ⟨x, hx⟩ : ∃ x, xs[k] = x := ⟨_, rfl⟩
      have hxv : v / Pw k % 18446744073709551616 = x := by rw [← hx, ← HVV.out]; exact val_drop_head xs k hlt HX.out.2.2.1
      rw [hx] at cx
      have hkl : (k : Int) < (xs.length : Int) := by omega
      have hin : InSt w.heap.size S v k 0 i w wr := by
        rcases hO with h | h
        · exact .inl h
        · exact .inr ⟨h.1, rfl, h.2.1, h.2.2⟩
      have HIN := Lib.hid hin
      have HXV := Lib.hid hxv
      clear hO hK hx hxv hin
      go_wp2_with fail
      clear cx
      go_loopw [5, 8, 9] (fun iv lv tv wr => ∃ (i : Int) (u t : Nat), t ≤ 8 ∧ iv = .int .i64 i ∧ lv = .int .u64 (u : Int) ∧ tv = .int .i64 (t : Int) ∧ i ≤ 4000000 ∧ -10000000 + (k : Int) * -9 - t ≤ i ∧ u = x / Pb t ∧ InSt w.heap.size S v k t i w wr) (fun _ _ tv _ => 8 - (intOf tv).toNat)
      case atStart => exact ⟨i, x, 0, by omega, rfl, rfl, rfl, hi1, by omega, by rw [Pb_zero, Nat.div_one], HIN.out⟩
      case round =>
        obtain ⟨i, u, t, ht, rfl, rfl, rfl, hi1, hi2, hu, hI⟩ := hrel
        clear HIN
        have HU := Lib.hid hu
        clear hu
        by_cases ht8 : t < 8
        · have ht8i : (t : Int) < 8 := by omega
          by_cases hneg : i ≤ 0
          · -- nothing is left
            have hu0 : u = 0 := by
              rw [HU.out, ← HXV.out]
              apply left_zero v k t S HV.out
              rcases hI with h | h
              · have := h.2.1; omega
              · omega
            subst hu0
            have hrow : OutRow w.heap.size S S v w wr := by
              rcases hI with h | h
              · have h1 := h.2.1
                have e : 8 * k + t = S := by omega
                have := h.2.2
                rw [e] at this
                exact this
              · exact h.2.2.2
            have hs : S ≤ 8 * (k + 1) := by
              rcases hI with h | h
              · have := h.2.1; omega
              · omega
            have HR := Lib.hid hrow
            have hi3 : i - 1 < 0 := by omega
            clear hrow hI HU
            go_wp2_with fail
            go_roundw
            case rel => exact ⟨i - 1, k + 1, by omega, by first | rfl | go_num, by go_num, by omega, by omega, .inr ⟨hs, by omega, HR.out⟩⟩
            case measure => first | (simp [intOf]; done) | (simp [intOf]; omega)
          · obtain ⟨h1, h2, h3⟩ : 8 * k + t < S ∧ i = ((S - 1 - (8 * k + t) + 1 : Nat) : Int) ∧ OutRow w.heap.size S (8 * k + t) v w wr := by
              rcases hI with h | h
              · refine ⟨by have := h.2.1; omega, by have := h.2.1; omega, h.2.2⟩
              · omega
            obtain ⟨d, hd⟩ : ∃ d, S - 1 - (8 * k + t) = d := ⟨_, rfl⟩
            rw [hd] at h2
            subst h2
            have hds : d < S := by omega
            have hcell : ∃ y, wr.cell? ⟨w.heap.size, d, none⟩ = some y := by
              rw [h3.1.cell d, List.getElem?_toArray, List.getElem?_map, List.getElem?_eq_getElem (by rw [tailOf_length]; exact hds)]
              exact ⟨_, rfl⟩
            obtain ⟨y, hy⟩ := hcell
            have fy := h3.1.frozen d
            have hsh := word_shift v k t ht8
            rw [HXV.out, ← HU.out] at hsh
            have hst : ∀ w', w' = wr.setCell ⟨w.heap.size, d, none⟩ (.int .u8 ((u : Int) % 256)) → OutRow w.heap.size S (8 * k + (t + 1)) v w w' := fun w' h =>
              OutRow.step (j := 8 * k + t) h3 h1 (Nat.le_refl _) (c := (u : Int) % 256) (by rw [hsh]; omega) (by rw [hd]; exact h)
            have HST := Lib.hid hst
            have hu2 : u / 256 = x / Pb (t + 1) := by rw [HU.out, Nat.div_div_eq_div_mul, Pb_succ, Nat.mul_comm]
            have HU2 := Lib.hid hu2
            have e1 : ((d + 1 : Nat) : Int) - 1 = (d : Int) := by omega
            have e2 : ¬ (d : Int) < 0 := by omega
            have e3 : (d : Int) < (S : Int) := by omega
            have HD := Lib.hid hd
            clear hI h3 hsh hst hu2 HU hd hneg
            go_wp2_with fail
            go_roundw
            case rel => exact ⟨d, u / 256, t + 1, by omega, by first | rfl | go_num, by first | rfl | go_num, by go_num, by omega, by omega, HU2.out, .inl ⟨by omega, by have := HD.out; omega, HST.out _ rfl⟩⟩
            case measure => first | (simp [intOf]; done) | (simp [intOf]; omega)
        · obtain rfl : t = 8 := by omega
          have hO : OutSt w.heap.size S v (k + 1) i w wr := by
            rcases hI with h | h
            · exact .inl ⟨by omega, by have := h.2.1; omega, h.2.2⟩
            · omega
          have HO := Lib.hid hO
          clear hI hO
          rw [show ((8 : Nat) : Int) = 8 from rfl]
          go_wp2_with fail
          go_roundw
          case rel => exact ⟨i, k + 1, by omega, rfl, by go_num, by omega, by omega, HO.out⟩
          case measure => first | (simp [intOf]; done) | (simp [intOf]; omega)
    · obtain rfl : k = xs.length := by omega
      have hfin : Blk wr w.heap.size 5 ((enc S v).map B).toArray ∧ Kept NoBlk w wr := by
        have hv : v % Pb S = v := Nat.mod_eq_of_lt HV.out
        rcases hO with h | h
        · have e : 8 * xs.length = S := by omega
          have := h.2.2.1
          rw [e] at this
          unfold tailOf at this
          rw [hv] at this
          exact ⟨this, hK⟩
        · have := h.2.2.1
          unfold tailOf at this
          rw [hv] at this
          exact ⟨this, hK⟩
      have FIN := Lib.hid hfin
      clear hO hK hfin
      go_wp2_with fail
      go_ret
      exact ⟨rfl, FIN.out⟩

end Go.Proofs.YtdmpiecdpdknaaaGreatDoor
namespace Go.Proofs.YtdmpiecdpdknaaaGreatDoor
open Go.RowKit

/-- The number v in n words, its header in block p. -/
def Nm (w : World) (p n v : Nat) : Prop := ∃ xs rest, NatAt w p (p - 1) xs rest ∧ 1 ≤ p ∧ xs.length = n ∧ n + rest.length = 32 ∧ val xs = v
/-- The blocks of the number at p. -/
def At2 (p : Nat) : Nat → Prop := fun k => k = p ∨ k = p - 1

section
variable {w w' : World} {S : Nat → Prop} {p p' n n' v v' : Nat}
theorem Nm.lt (h : Nm w p n v) : 1 ≤ p ∧ p < w.heap.size := by
  obtain ⟨xs, rest, h, h1, _⟩ := h
  exact ⟨h1, h.lt.1⟩
theorem Nm.kept (h : Nm w p n v) (k : Kept S w w') (h1 : ¬ S p) (h2 : ¬ S (p - 1)) : Nm w' p n v := by
  obtain ⟨xs, rest, h, r⟩ := h
  exact ⟨xs, rest, h.kept k h1 h2, r⟩
theorem Nm.still (h : Nm w p n v) (k : Kept NoBlk w w') : Nm w' p n v := h.kept k (fun e => e) (fun e => e)
theorem Nm.away (h : Nm w p' n' v') (hx : Nm w p n v) (hne : p' ≠ p) (k : Kept (At2 p) w w') : Nm w' p' n' v' := by
  obtain ⟨xs, rest, hx, h1, _⟩ := hx
  obtain ⟨ys, rest', hy, h1', r⟩ := h
  exact ⟨ys, rest', hy.away hx hne (by omega) k, h1', r⟩
/-- A step that turns another number's blocks, or new ones. -/
theorem Nm.far (h : Nm w p n v) (k : Kept (At2 p') w w') (hp : w.heap.size < p') : Nm w' p n v := by
  have := h.lt
  exact h.kept k (fun e => by unfold At2 at e; omega) (fun e => by unfold At2 at e; omega)
theorem Nm.drew (h : Nm w p n v) : Nm w.drew p n v := h
theorem Nm.drewN (h : Nm w p n v) (k : Nat) : Nm (w.drewN k) p n v := h
theorem Nm.alloc (h : Nm w p n v) (o : Obj) : Nm (w.alloc o) p n v := h.still ((Kept.refl _ w).alloc o)
theorem Nm.bound (h : Nm w p n v) : v < Pw n ∧ n ≤ 32 := by
  obtain ⟨xs, rest, h, _, rfl, h32, rfl⟩ := h
  exact ⟨val_lt xs h.2.2.1, by omega⟩
theorem Nm.same (h : Nm w p n v) (h' : Nm w p n' v') : n = n' ∧ v = v' := by
  obtain ⟨xs, rest, h, h1, rfl, h32, rfl⟩ := h
  obtain ⟨ys, rest', h', h1', rfl, h32', rfl⟩ := h'
  have e := (h.1.same h'.1).2
  simp at e
  have e2 := (h.2.1.same h'.2.1).2
  have e3 : (xs ++ rest).map U = (ys ++ rest').map U := by simpa using e2
  have e4 : xs.map U = ys.map U := by
    have := congrArg (List.take xs.length) e3
    rw [List.map_append, List.map_append, List.take_left' (by simp), List.take_left' (by simpa using e.1.symm)] at this
    exact this
  have : xs = ys := by
    have hinj : ∀ a b : Nat, U a = U b → a = b := fun a b h => by
      unfold U at h; injection h with _ h; omega
    clear e e2 e3 h h' h32 h32'
    induction xs generalizing ys with
    | nil => cases ys with
      | nil => rfl
      | cons y ys => simp at e4
    | cons x xs ih => cases ys with
      | nil => simp at e4
      | cons y ys =>
        simp only [List.map_cons, List.cons.injEq] at e4
        rw [hinj x y e4.1, ih _ e4.2]
  subst this
  exact ⟨rfl, rfl⟩
end

theorem At2.both (p : Nat) : At2 p = Both p (p - 1) := rfl

/-- The modulus m of n words, its header in block q, its number at pn, and where it is odd R times R at pr. -/
def Md (w : World) (q pn pr n m : Nat) : Prop :=
  1 < m ∧ 1 ≤ n ∧ Pw (n - 1) ≤ m ∧ Nm w pn n m ∧ ∃ (mi : Nat) (rv : Value), Blk w q 97 #[.pointer (some ⟨pn, 0, none⟩), .bool (m % 2 == 1), .int .u64 mi, rv] ∧
    mi < 18446744073709551616 ∧ (m % 2 = 1 → m * mi % 18446744073709551616 = 18446744073709551615 ∧ rv = .pointer (some ⟨pr, 0, none⟩) ∧ Nm w pr n (Pw n * Pw n % m))

section
variable {w w' : World} {S : Nat → Prop} {q pn pr n m p n' v' : Nat}
theorem Md.kept (h : Md w q pn pr n m) (k : Kept S w w') (h1 : ¬ S q) (h2 : ¬ S pn) (h3 : ¬ S (pn - 1)) (h4 : ¬ S pr) (h5 : ¬ S (pr - 1)) : Md w' q pn pr n m := by
  obtain ⟨a, b, c, d, mi, rv, e, f, g⟩ := h
  exact ⟨a, b, c, d.kept k h2 h3, mi, rv, e.kept k h1, f, fun ho => ⟨(g ho).1, (g ho).2.1, (g ho).2.2.kept k h4 h5⟩⟩
theorem Md.still (h : Md w q pn pr n m) (k : Kept NoBlk w w') : Md w' q pn pr n m := h.kept k (fun e => e) (fun e => e) (fun e => e) (fun e => e) (fun e => e)
theorem Md.away (h : Md w q pn pr n m) (hx : Nm w p n' v') (h1 : pn ≠ p) (h2 : pr ≠ p) (k : Kept (At2 p) w w') : Md w' q pn pr n m := by
  obtain ⟨a, b, c, d, mi, rv, e, f, g⟩ := h
  obtain ⟨xs, rest, hx0, hx1, _⟩ := id hx
  exact ⟨a, b, c, d.away hx h1 k, mi, rv, e.kept k (fun z => z.elim (e.ne_ hx0.1 (by decide)) (e.ne_ hx0.2.1 (by decide))), f, fun ho => ⟨(g ho).1, (g ho).2.1, (g ho).2.2.away hx h2 k⟩⟩
theorem Md.ltq (h : Md w q pn pr n m) : q < w.heap.size ∧ pn < w.heap.size ∧ 1 ≤ pn := by
  obtain ⟨a, b, c, d, mi, rv, e, _⟩ := h
  exact ⟨e.lt, d.lt.2, d.lt.1⟩
theorem Md.ltr (h : Md w q pn pr n m) (ho : m % 2 = 1) : pr < w.heap.size ∧ 1 ≤ pr := by
  obtain ⟨a, b, c, d, mi, rv, e, f, g⟩ := h
  exact ⟨(g ho).2.2.lt.2, (g ho).2.2.lt.1⟩
theorem Md.n32 (h : Md w q pn pr n m) : n ≤ 32 := h.2.2.2.1.bound.2
theorem Md.mlt (h : Md w q pn pr n m) : m < Pw n := h.2.2.2.1.bound.1
theorem Md.drew (h : Md w q pn pr n m) : Md w.drew q pn pr n m := h
theorem Md.drewN (h : Md w q pn pr n m) (k : Nat) : Md (w.drewN k) q pn pr n m := h
/-- The modulus as the contracts of its words have it. -/
theorem Md.modAt (h : Md w q pn pr n m) : ∃ ms mr mi rv, ModAt w q pn (pn - 1) ms mr (m % 2 == 1) mi rv ∧ ms.length = n ∧ n + mr.length = 32 ∧ val ms = m ∧ mi < 18446744073709551616 ∧
    (m % 2 = 1 → ms.headD 0 * mi % 18446744073709551616 = 18446744073709551615 ∧ rv = .pointer (some ⟨pr, 0, none⟩) ∧ Nm w pr n (Pw n * Pw n % m)) := by
  obtain ⟨a, b, c, ⟨ms, mr, d, d1, d2, d3, d4⟩, mi, rv, e, f, g⟩ := h
  refine ⟨ms, mr, mi, rv, ⟨e, d⟩, d2, d3, d4, f, fun ho => ⟨?_, (g ho).2.1, (g ho).2.2⟩⟩
  have h1 := (g ho).1
  cases ms with
  | nil => simp at d2; omega
  | cons x xs =>
    rw [← d4, val, Nat.add_mul, Nat.mul_assoc, Nat.add_mul_mod_self_left] at h1
    exact h1
end

/-- What an operation on the number at p leaves there. -/
def NmOut (p n v : Nat) (w : World) (e : Ending) (w' : World) : Prop := e = .returned (.pointer (some ⟨p, 0, none⟩)) ∧ Nm w' p n v ∧ Kept (At2 p) w w'

theorem Sized.nm {p : Nat} {zs : List Nat} {capOld n v : Nat} {w w' : World} {e : Ending} (h : Sized p (p - 1) zs capOld w e w') (h1 : 1 ≤ p) (hc : capOld = 32) (hn : n ≤ 32) (hz : zs.length = n) (hv : val zs = v) : NmOut p n v w e w' := by
  obtain ⟨rfl, b', rest', h2, h3, _, h5⟩ := h
  rcases h3 with h3 | h3
  · obtain ⟨rfl, h4⟩ := h3
    exact ⟨rfl, ⟨zs, rest', h2, h1, hz, by omega, hv⟩, h5⟩
  · omega

theorem newNat_nm (w : World) : Calls Tryz.prog 41 #[] w fun e w' => e = .returned (.pointer (some ⟨w.heap.size + 1, 0, none⟩)) ∧ Nm w' (w.heap.size + 1) 0 0 ∧ Kept NoBlk w w' := by
  refine (newNat_any w).mono ?_
  rintro e w' ⟨rfl, h, k⟩
  exact ⟨rfl, ⟨[], noughts 32, h, by omega, rfl, by rw [noughts_length], rfl⟩, k⟩

end Go.Proofs.YtdmpiecdpdknaaaGreatDoor
namespace Go.Proofs.YtdmpiecdpdknaaaGreatDoor
open Go.RowKit

section
variable {w w' : World} {p q pn pr n m v : Nat}
theorem Nm.open_ (h : Nm w p n v) : ∃ xs rest, NatAt w p (p - 1) xs rest ∧ 1 ≤ p ∧ xs.length = n ∧ xs.length + rest.length = 32 ∧ val xs = v := by
  obtain ⟨xs, rest, a, b, c, d, e⟩ := h
  exact ⟨xs, rest, a, b, c, by omega, e⟩
theorem Nm.fresh_lt (h : Nm w p n v) : p < w.heap.size := h.lt.2
/-- An operation on a number of the call's own. -/
theorem At2.new {S : Nat → Prop} {w0 : World} (k : Kept S w0 w) (k2 : Kept (At2 p) w w') (h : w0.heap.size < p) : Kept S w0 w' :=
  k.step k2 (fun i hi e => by unfold At2 at e; omega)
theorem At2.trans {w0 : World} (k : Kept (At2 p) w0 w) (k2 : Kept (At2 p) w w') : Kept (At2 p) w0 w' := k.trans k2
theorem At2.one (p : Nat) (k : Kept (OneBlk (p - 1)) w w') : Kept (At2 p) w w' := k.mono (fun _ _ e => .inr e)
theorem At2.hdr (p : Nat) (k : Kept (OneBlk p) w w') : Kept (At2 p) w w' := k.mono (fun _ _ e => .inl e)
theorem At2.of (p : Nat) (k : Kept NoBlk w w') : Kept (At2 p) w w' := k.mono (fun _ _ e => e.elim)
end

/-- A new number: what NewNat, Modulus.Nat and their like leave. -/
def NmNew (n v : Nat) (w : World) (e : Ending) (w' : World) : Prop := e = .returned (.pointer (some ⟨w.heap.size + 1, 0, none⟩)) ∧ Nm w' (w.heap.size + 1) n v ∧ Kept NoBlk w w'

theorem modNat_nm (q pn pr n m : Nat) (w : World) (hm : Md w q pn pr n m) : Calls Tryz.prog 57 #[.pointer (some ⟨q, 0, none⟩)] w (NmNew n m w) := by
  have h32 := hm.n32
  obtain ⟨ms, mr, mi, rv, h, h1, h2, h3, _⟩ := hm.modAt
  refine (modNat_any q pn (pn - 1) ms mr _ mi rv w h (by omega)).mono ?_
  rintro e w' ⟨p, b, rest, rfl, a1, a2, a3, a4, a5, k⟩
  obtain ⟨rfl, rfl, c⟩ := a5 (by omega)
  exact ⟨rfl, ⟨ms, rest, a3, by omega, h1, by omega, h3⟩, k⟩

theorem resetFor_nm (p q pn pr n0 v n m : Nat) (w : World) (hx : Nm w p n0 v) (hm : Md w q pn pr n m) : Calls Tryz.prog 53 #[.pointer (some ⟨p, 0, none⟩), .pointer (some ⟨q, 0, none⟩)] w (NmOut p n 0 w) := by
  have h32 := hm.n32
  obtain ⟨xs, rest, x1, x2, x3, x4, x5⟩ := hx.open_
  obtain ⟨ms, mr, mi, rv, h, h1, h2, h3, _⟩ := hm.modAt
  refine (resetFor_any p (p - 1) q pn (pn - 1) xs rest ms mr _ mi rv w x1 h (by omega)).mono ?_
  intro e w' hs
  exact hs.nm x2 x4 h32 (by rw [noughts_length]; exact h1) (val_noughts _)

theorem expandFor_nm (p q pn pr n0 v n m : Nat) (w : World) (hx : Nm w p n0 v) (hm : Md w q pn pr n m) (hn : n0 ≤ n) : Calls Tryz.prog 67 #[.pointer (some ⟨p, 0, none⟩), .pointer (some ⟨q, 0, none⟩)] w (NmOut p n v w) := by
  have h32 := hm.n32
  obtain ⟨xs, rest, x1, x2, x3, x4, x5⟩ := hx.open_
  obtain ⟨ms, mr, mi, rv, h, h1, h2, h3, _⟩ := hm.modAt
  refine (expandFor_any p (p - 1) q pn (pn - 1) xs rest ms mr _ mi rv w x1 h (by omega) (by omega)).mono ?_
  intro e w' hs
  refine hs.nm x2 x4 h32 (by rw [List.length_append, noughts_length]; omega) ?_
  rw [val_append, val_noughts, Nat.mul_zero, Nat.add_zero, x5]

theorem set_nm (p p' n0 v0 n v : Nat) (w : World) (hx : Nm w p n0 v0) (hy : Nm w p' n v) (hne : p' ≠ p) : Calls Tryz.prog 70 #[.pointer (some ⟨p, 0, none⟩), .pointer (some ⟨p', 0, none⟩)] w (NmOut p n v w) := by
  obtain ⟨xs, rest, x1, x2, x3, x4, x5⟩ := hx.open_
  obtain ⟨ys, rest', y1, y2, y3, y4, y5⟩ := hy.open_
  refine (set_any p (p - 1) p' (p' - 1) xs rest ys rest' w x1 y1 hne (by omega) (by omega)).mono ?_
  intro e w' hs
  exact hs.nm x2 x4 (by omega) y3 y5

theorem add_nm (p p' q pn pr n m v v' : Nat) (w : World) (hx : Nm w p n v) (hy : Nm w p' n v') (hm : Md w q pn pr n m) (hpn : pn ≠ p) (h1 : v < m) (h2 : v' < m) :
    Calls Tryz.prog 68 #[.pointer (some ⟨p, 0, none⟩), .pointer (some ⟨p', 0, none⟩), .pointer (some ⟨q, 0, none⟩)] w (NmOut p n ((v + v') % m) w) := by
  have h32 := hm.n32
  obtain ⟨ms, mr, mi, rv, h, a1, a2, a3, _⟩ := hm.modAt
  have hpm := hm.ltq.2.2
  have hxy : p = p' → n = n ∧ v = v' := fun e => by subst e; exact hx.same hy
  obtain ⟨xs, rest, x1, x2, x3, x4, x5⟩ := hx.open_
  obtain ⟨ys, rest', y1, y2, y3, y4, y5⟩ := hy.open_
  have hb : p - 1 ≠ p' - 1 ∨ p - 1 = p' - 1 ∧ xs = ys := by
    by_cases e : p = p'
    · have := (hxy e).2
      exact .inr ⟨by omega, val_inj x1.2.2.1 y1.2.2.1 (by omega) (by omega)⟩
    · exact .inl (by omega)
  refine (modAdd_any p (p - 1) p' (p' - 1) q pn (pn - 1) xs rest ys rest' ms mr _ mi rv w x1 y1 h hb (by omega) (by omega) (by omega) (by omega) (by omega) (by omega) (by omega)).mono ?_
  rintro e w' ⟨rfl, zs, z1, z2, z3, z4⟩
  exact ⟨rfl, ⟨zs, rest, z2, x2, by omega, by omega, by rw [z4, x5, y5, a3]⟩, At2.one p z3⟩

theorem sub_nm (p p' q pn pr n m v v' : Nat) (w : World) (hx : Nm w p n v) (hy : Nm w p' n v') (hm : Md w q pn pr n m) (hpn : pn ≠ p) (hne : p ≠ p') (h1 : v < m) (h2 : v' < m) :
    Calls Tryz.prog 65 #[.pointer (some ⟨p, 0, none⟩), .pointer (some ⟨p', 0, none⟩), .pointer (some ⟨q, 0, none⟩)] w (NmOut p n ((v + m - v') % m) w) := by
  have h32 := hm.n32
  obtain ⟨ms, mr, mi, rv, h, a1, a2, a3, _⟩ := hm.modAt
  have hpm := hm.ltq.2.2
  obtain ⟨xs, rest, x1, x2, x3, x4, x5⟩ := hx.open_
  obtain ⟨ys, rest', y1, y2, y3, y4, y5⟩ := hy.open_
  refine (modSub_any p (p - 1) p' (p' - 1) q pn (pn - 1) xs rest ys rest' ms mr _ mi rv w x1 y1 h (.inl (by omega)) (by omega) (by omega) (by omega) (by omega) (by omega) (by omega) (by omega)).mono ?_
  rintro e w' ⟨rfl, zs, z1, z2, z3, z4⟩
  exact ⟨rfl, ⟨zs, rest, z2, x2, by omega, by omega, by rw [z4, x5, y5, a3]⟩, At2.one p z3⟩

theorem subOne_nm (p q pn pr n m v : Nat) (w : World) (hx : Nm w p n v) (hm : Md w q pn pr n m) (hpn : pn ≠ p) (h1 : v < m) :
    Calls Tryz.prog 58 #[.pointer (some ⟨p, 0, none⟩), .pointer (some ⟨q, 0, none⟩)] w (NmOut p n ((v + m - 1) % m) w) := by
  have h32 := hm.n32
  have hn1 := hm.2.1
  have hm1 := hm.1
  obtain ⟨ms, mr, mi, rv, h, a1, a2, a3, _⟩ := hm.modAt
  have hpm := hm.ltq.2.2
  obtain ⟨xs, rest, x1, x2, x3, x4, x5⟩ := hx.open_
  refine (subOne_any p (p - 1) q pn (pn - 1) xs rest ms mr _ mi rv w x1 h (by omega) (by omega) (by omega) (by omega) (by omega) (by omega)).mono ?_
  rintro e w' ⟨rfl, zs, z1, z2, z3, z4⟩
  exact ⟨rfl, ⟨zs, rest, z2, x2, by omega, by omega, by rw [z4, x5, a3]⟩, At2.one p z3⟩

/-- A multiplication of Montgomery's. -/
theorem mont_nm (p pa pb q pn pr nx vx n m va vb : Nat) (w : World) (hx : Nm w p nx vx) (ha : Nm w pa n va) (hb : Nm w pb n vb) (hm : Md w q pn pr n m) (ho : m % 2 = 1) (hpn : pn ≠ p) (h1 : va < m) :
    Calls Tryz.prog 73 #[.pointer (some ⟨p, 0, none⟩), .pointer (some ⟨pa, 0, none⟩), .pointer (some ⟨pb, 0, none⟩), .pointer (some ⟨q, 0, none⟩)] w fun e w' =>
      ∃ z, z < m ∧ 18446744073709551616 ^ n * z % m = va * vb % m ∧ NmOut p n z w e w' := by
  have h32 := hm.n32
  have hn1 := hm.2.1
  obtain ⟨ms, mr, mi, rv, h, a1, a2, a3, _, a4⟩ := hm.modAt
  have hpm := hm.ltq.2.2
  obtain ⟨xs, rest, x1, x2, x3, x4, x5⟩ := hx.open_
  obtain ⟨ys, rest', y1, y2, y3, y4, y5⟩ := ha.open_
  obtain ⟨zs, rest'', z1, z2, z3, z4, z5⟩ := hb.open_
  rw [ho, show (1 == 1) = true from rfl] at h
  refine (montMul_any p (p - 1) pa (pa - 1) pb (pb - 1) q pn (pn - 1) n xs rest ys rest' zs rest'' ms mr mi rv w x1 y1 z1 h a1 y3 z3 hn1 (by omega) (by omega) (by omega) hpn (by omega) (a4 ho).1 (by omega)).mono ?_
  rintro e w' ⟨rfl, b', us, rest3, u1, u2, u3, u4, u5, u6, u7⟩
  rcases u3 with ⟨rfl, u3⟩ | u3
  · rw [a3] at u6
    rw [y5, z5, a3] at u7
    exact ⟨val us, u6, u7, rfl, ⟨us, rest3, u2, x2, u1, by omega, rfl⟩, u5⟩
  · omega

theorem bytes_nm (p q pn pr n m v S : Nat) (w : World) (hx : Nm w p n v) (hm : Md w q pn pr n m) (hS : (bitLen m + 7) / 8 = S) (hv : v < Pb S) :
    Calls Tryz.prog 47 #[.pointer (some ⟨p, 0, none⟩), .pointer (some ⟨q, 0, none⟩)] w fun e w' =>
      e = .returned (.slice (some ⟨w.heap.size, 0, none⟩) S S) ∧ Blk w' w.heap.size 5 ((enc S v).map B).toArray ∧ Kept NoBlk w w' := by
  have h32 := hm.n32
  have hml := hm.mlt
  obtain ⟨ms, mr, mi, rv, h, a1, a2, a3, _⟩ := hm.modAt
  obtain ⟨xs, rest, x1, x2, x3, x4, x5⟩ := hx.open_
  have hS2 : S ≤ 8 * n := by
    have := bitLen_val_le ms h.2.2.2.1
    rw [a3, a1] at this
    omega
  rw [← x5]
  exact bytes_any p (p - 1) q pn (pn - 1) xs rest ms mr _ mi rv S w x1 h (by omega) (by omega) (by rw [a3]; exact hS) (by rw [x5]; exact hv) (by omega)

theorem size_md (q pn pr n m : Nat) (w : World) (hm : Md w q pn pr n m) :
    Calls Tryz.prog 75 #[.pointer (some ⟨q, 0, none⟩)] w fun e w' => e = .returned (.int .i64 (((bitLen m + 7) / 8 : Nat) : Int)) ∧ w = w' := by
  have h32 := hm.n32
  obtain ⟨ms, mr, mi, rv, h, a1, a2, a3, _⟩ := hm.modAt
  rw [← a3]
  exact modSize_any q pn (pn - 1) ms mr _ mi rv w h (by omega)
theorem bitLen_md (q pn pr n m : Nat) (w : World) (hm : Md w q pn pr n m) :
    Calls Tryz.prog 76 #[.pointer (some ⟨q, 0, none⟩)] w fun e w' => e = .returned (.int .i64 (bitLen m : Int)) ∧ w = w' := by
  have h32 := hm.n32
  obtain ⟨ms, mr, mi, rv, h, a1, a2, a3, _⟩ := hm.modAt
  rw [← a3]
  exact modBitLen_any q pn (pn - 1) ms mr _ mi rv w h (by omega)
theorem bitLenVar_nm (p n v : Nat) (w : World) (hx : Nm w p n v) :
    Calls Tryz.prog 91 #[.pointer (some ⟨p, 0, none⟩)] w fun e w' => e = .returned (.int .i64 (bitLen v : Int)) ∧ w = w' := by
  obtain ⟨xs, rest, x1, x2, x3, x4, x5⟩ := hx.open_
  rw [← x5]
  exact bitLenVar_any p (p - 1) xs rest w x1 (by omega)

theorem isZero_nm (p n v : Nat) (w : World) (hx : Nm w p n v) :
    Calls Tryz.prog 79 #[.pointer (some ⟨p, 0, none⟩)] w fun e w' => e = .returned (.int .u64 (bitN (decide (v = 0)) : Int)) ∧ w = w' := by
  obtain ⟨xs, rest, x1, x2, x3, x4, x5⟩ := hx.open_
  rw [← x5]
  exact isZero_any p (p - 1) xs rest w x1 (by omega)
theorem isOne_nm (p n v : Nat) (w : World) (hx : Nm w p n v) (hn : 1 ≤ n) :
    Calls Tryz.prog 80 #[.pointer (some ⟨p, 0, none⟩)] w fun e w' => e = .returned (.int .u64 (bitN (decide (v = 1)) : Int)) ∧ w = w' := by
  obtain ⟨xs, rest, x1, x2, x3, x4, x5⟩ := hx.open_
  cases xs with
  | nil => simp at x3; omega
  | cons x xs =>
    rw [← x5]
    exact isOne_any p (p - 1) x xs rest w x1 (by omega)
theorem isOdd_nm (p n v : Nat) (w : World) (hx : Nm w p n v) (hn : 1 ≤ n) :
    Calls Tryz.prog 60 #[.pointer (some ⟨p, 0, none⟩)] w fun e w' => e = .returned (.int .u64 ((v % 2 : Nat) : Int)) ∧ w = w' := by
  obtain ⟨xs, rest, x1, x2, x3, x4, x5⟩ := hx.open_
  cases xs with
  | nil => simp at x3; omega
  | cons x xs =>
    rw [← x5, val_odd]
    exact isOdd_any p (p - 1) x xs rest w x1 (by omega)
theorem equal_nm (p p' n v v' : Nat) (w : World) (hx : Nm w p n v) (hy : Nm w p' n v') :
    Calls Tryz.prog 69 #[.pointer (some ⟨p, 0, none⟩), .pointer (some ⟨p', 0, none⟩)] w fun e w' => e = .returned (.int .u64 (bitN (decide (v = v')) : Int)) ∧ Kept NoBlk w w' := by
  obtain ⟨xs, rest, x1, x2, x3, x4, x5⟩ := hx.open_
  obtain ⟨ys, rest', y1, y2, y3, y4, y5⟩ := hy.open_
  rw [← x5, ← y5]
  exact equal_any p (p - 1) p' (p' - 1) xs rest ys rest' w x1 y1 (by omega) (by omega)
theorem cmpGeq_nm (p p' n v v' : Nat) (w : World) (hx : Nm w p n v) (hy : Nm w p' n v') :
    Calls Tryz.prog 55 #[.pointer (some ⟨p, 0, none⟩), .pointer (some ⟨p', 0, none⟩)] w fun e w' => e = .returned (.int .u64 (bitN (decide (v' ≤ v)) : Int)) ∧ Kept NoBlk w w' := by
  obtain ⟨xs, rest, x1, x2, x3, x4, x5⟩ := hx.open_
  obtain ⟨ys, rest', y1, y2, y3, y4, y5⟩ := hy.open_
  rw [← x5, ← y5]
  exact cmpGeq_any p (p - 1) p' (p' - 1) xs rest ys rest' w x1 y1 (by omega) (by omega)
theorem assign_nm (p p' n v v' c : Nat) (w : World) (hc : c ≤ 1) (hx : Nm w p n v) (hy : Nm w p' n v') (hne : p ≠ p') :
    Calls Tryz.prog 87 #[.pointer (some ⟨p, 0, none⟩), .int .u64 c, .pointer (some ⟨p', 0, none⟩)] w (NmOut p n (if c = 1 then v' else v) w) := by
  obtain ⟨xs, rest, x1, x2, x3, x4, x5⟩ := hx.open_
  obtain ⟨ys, rest', y1, y2, y3, y4, y5⟩ := hy.open_
  refine (assign_any p (p - 1) p' (p' - 1) c xs rest ys rest' w hc x1 y1 (by omega) (.inl (by omega)) (by omega)).mono ?_
  rintro e w' ⟨rfl, z1, z2⟩
  refine ⟨rfl, ⟨sel c ys xs, rest, z1, x2, ?_, by omega, ?_⟩, At2.one p z2⟩
  · unfold sel; split <;> omega
  · unfold sel; split <;> assumption

/-- A new modulus of few words. -/
theorem newMod_md (A : Option Addr) (cap : Nat) (bs : List UInt8) (w : World) (hb : BytesAt w A bs) (hA : ∀ a, A = some a → bs ≠ [] → a.block < w.heap.size) (hc : bs.length ≤ cap) (hL : bs.length ≤ 256) (h1 : 1 < num bs) :
    Calls Tryz.prog 40 #[.slice A bs.length cap] w fun e w' =>
      ∃ q pn pr n, e = .returned (.tuple #[.pointer (some ⟨q, 0, none⟩), .nilIface]) ∧ w.heap.size ≤ q ∧ w.heap.size < pn ∧ w.heap.size < pr ∧ Md w' q pn pr n (num bs) ∧ Kept NoBlk w w' := by
  refine (newMod_any A cap bs w hb hA hc (by omega) h1).mono ?_
  rintro e w' ⟨q, pn, bn, ms, mr, rfl, a1, a2, a3, ⟨mi, rv, b1, b2, b3, b4, b5⟩, a5, a6, a7, a8, k⟩
  obtain ⟨rfl, a9⟩ := a8 hL
  have h0 : ms ≠ [] := by rintro rfl; simp [val] at b3
  have hl : 1 ≤ ms.length := by cases ms with
    | nil => exact absurd rfl h0
    | cons x xs => simp
  have hge := b2.ge h0
  rw [a5] at b1 b3 b5 hge
  have hnm : Nm w' (bn + 1) ms.length (num bs) := ⟨ms, mr, by simpa using b1.2, by omega, rfl, a9, a5⟩
  by_cases ho : num bs % 2 = 1
  · obtain ⟨c1, pr, br, rs, rt, rfl, c2, c3, c4, c5, c6, c7⟩ := b5 ho
    obtain ⟨rfl, c8⟩ := c7 (by omega)
    refine ⟨q, bn + 1, br + 1, ms.length, rfl, a1, by omega, by omega, ⟨b3, hl, hge, hnm, mi, _, b1.1, b4, fun _ => ⟨?_, rfl, rs, rt, by simpa using c4, by omega, c5, by omega, c6⟩⟩, k⟩
    cases ms with
    | nil => exact absurd rfl h0
    | cons x xs =>
      rw [← a5, val, Nat.add_mul, Nat.mul_assoc, Nat.add_mul_mod_self_left]
      exact c1
  · exact ⟨q, bn + 1, bn + 1, ms.length, rfl, a1, by omega, by omega, ⟨b3, hl, hge, hnm, mi, rv, b1.1, b4, fun h => absurd h ho⟩, k⟩

end Go.Proofs.YtdmpiecdpdknaaaGreatDoor
