/-
  spec.Trimmed, Wide, Less, Bits.
  spec.plus, minus.
  spec.rest.
-/
import Derived.Test.YtdmpiecdpdknaaaGreatDoorGe
import Derived.BigQuiet
import Derived.Deep.QuietTactic
namespace Go.Proofs.YtdmpiecdpdknaaaGreatDoor
open Go.RowKit

/-- Bytes that a call leaves. -/
def GaveB (xs : List UInt8) (w : World) (e : Ending) (w' : World) : Prop := ∃ A c, e = .returned (.slice A xs.length c) ∧ BytesAt w' A xs ∧ xs.length ≤ c ∧ Kept NoBlk w w'
/-- Bytes in a new row. -/
def MadeB (xs : List UInt8) (w : World) (e : Ending) (w' : World) : Prop := ∃ g, e = .returned (.slice (some ⟨g, 0, none⟩) xs.length xs.length) ∧ w.heap.size ≤ g ∧ Blk w' g 5 (xs.map B).toArray ∧ Kept NoBlk w w'

theorem Blk.bytes {w : World} {g : Nat} {xs : List UInt8} (h : Blk w g 5 (xs.map B).toArray) : BytesAt w (some ⟨g, 0, none⟩) xs := h.at_ (xs.map B) (fun j u hu => by simpa using hu)
theorem MadeB.gave {xs : List UInt8} {w w' : World} {e : Ending} (h : MadeB xs w e w') : GaveB xs w e w' := by
  obtain ⟨g, rfl, _, hb, k⟩ := h
  exact ⟨_, _, rfl, hb.bytes, Nat.le_refl _, k⟩
theorem own_row (w : World) (xs : List UInt8) (hl : xs.length ≤ 1000) : (w.alloc (.cells (xs.map B).toArray 5)).ownsRow w.heap.size 5 1 (.slice (some ⟨w.heap.size, 0, none⟩) xs.length xs.length) xs.length (xs.map B) := by
  have h := World.ownsRow_lit (e := 5) (size := 1) w (xs.map B).toArray xs.length (Nat.le_refl _) (by unfold maxLen; omega) (by simp)
  simpa using h

def lenV : Value → Nat
  | .slice _ n _ => n
  | _ => 0

theorem trim_cons0 (ys : List UInt8) : trim (0 :: ys) = trim ys := by rw [trim, if_pos rfl]

theorem trimmed_any (w : World) (A : Option Addr) (c : Nat) (xs : List UInt8) (hx : BytesAt w A xs) (hc : xs.length ≤ c) (hl : xs.length ≤ 1048576) :
    Calls Tryz.prog 38 #[.slice A xs.length c] w (GaveB (trim xs) w) := by
  have hown : (w.alloc (.cells #[] 5)).ownsRow w.heap.size 5 1 (.slice (some ⟨w.heap.size, 0, none⟩) 0 0) 0 [] := own_row w [] (by decide)
  have HX := Lib.hid hx
  clear hx
  go_enter Tryz.func38, Tryz.ntmps38
  go_wp2_with fail
  go_loop [0] (fun v => ∃ (ys : List UInt8) (A' : Option Addr) (c' : Nat), ys.length ≤ c' ∧ ys.length ≤ xs.length ∧ v = .slice A' ys.length c' ∧ trim ys = trim xs ∧ BytesAt w A' ys) (fun v => lenV v)
  case atStart => exact ⟨xs, A, c, hc, Nat.le_refl _, rfl, rfl, HX.out⟩
  case round =>
    obtain ⟨ys, A', c', hyc, hy, rfl, ht, hat⟩ := hrel
    cases ys with
    | nil =>
      have HT := Lib.hid ht
      clear ht
      go_wp2_with (at_builtin; refine wpList_append_bytes _ rfl _ _ rfl w.heap.size _ [] rfl hown A' c' _ [] rfl rfl (BytesAt.nil _ _) (by simp) (by simp) ?_; intro v' w1 hown1 hgrow)
      go_ret
      obtain ⟨A1, c1, rfl, h1, _, h3, _⟩ := own_form hown1
      rw [← HT.out]
      exact ⟨A1, c1, rfl, h3, h1, ((Kept.refl _ w).alloc _).grow hown (Nat.le_refl _) hgrow⟩
    | cons y ys =>
      obtain ⟨b, off, rfl, hb, hcell⟩ := hat.at_ (k := 0) (by simp)
      have c0 : w.cell? ⟨b, off, none⟩ = some (.int .u8 (y.toNat : Int)) := hcell 0 y rfl
      have hl1 : (y :: ys).length = ys.length + 1 := rfl
      rw [hl1] at hyc hy ⊢
      have HAT := Lib.hid hat
      have HT := Lib.hid ht
      clear hat ht hcell hl1
      by_cases hy0 : y = 0
      · have h0 : ((y.toNat : Int) == 0) = true := by rw [hy0]; rfl
        have H0 := Lib.hid hy0
        clear hy0
        go_wp2_with fail
        go_round
        case rel =>
          have h := HT.out
          rw [H0.out, trim_cons0] at h
          refine ⟨ys, if c' = 1 then some ⟨b, off, none⟩ else some ⟨b, off + 1, none⟩, c' - 1, by omega, by omega, by go_num, h, ?_⟩
          by_cases hc1 : c' = 1
          · obtain rfl : ys = [] := List.eq_nil_of_length_eq_zero (by omega)
            exact BytesAt.nil _ _
          · rw [if_neg hc1]
            have := At.drop HAT.out 1 (by simp)
            exact (by simpa using this : At w (some ⟨b, off + 1, none⟩) (ys.map B))
        case measure => simp [lenV]
      · have h0 : ((y.toNat : Int) == 0) = false := by
          rw [beq_eq_false_iff_ne]; intro e; exact hy0 (UInt8.toNat_inj.1 (by simpa using e))
        have hty : trim (y :: ys) = y :: ys := trim_of_tight hy0
        have HY := Lib.hid hty
        clear hy0 hty
        go_wp2_with (at_builtin; refine wpList_append_bytes _ rfl _ _ rfl w.heap.size _ [] rfl hown _ c' _ (y :: ys) rfl rfl (HAT.out.alloc _) (by simp; omega) (by simp) ?_; intro v' w1 hown1 hgrow)
        go_ret
        obtain ⟨A1, c1, rfl, h1, _, h3, _⟩ := own_form hown1
        rw [← HT.out, HY.out]
        exact ⟨A1, c1, rfl, h3, h1, ((Kept.refl _ w).alloc _).grow hown (Nat.le_refl _) hgrow⟩

theorem wide_any (w : World) (A : Option Addr) (c n : Nat) (xs : List UInt8) (hx : BytesAt w A xs) (hc : xs.length ≤ c) (hl : xs.length ≤ 1048576) (hn : n ≤ 1000000) :
    Calls Tryz.prog 31 #[.slice A xs.length c, .int .i64 n] w (MadeB (enc n (num xs)) w) := by
  have hmk : ∀ w' : World, _ := fun w' => make_bytes w' n (by omega)
  have HX := Lib.hid (trimmed_any w A c xs hx hc hl)
  have htl := trim_le xs
  have hnt := num_trim xs
  obtain ⟨ys, hys⟩ : ∃ ys, trim xs = ys := ⟨_, rfl⟩
  rw [hys] at HX htl hnt
  rw [← hnt]
  clear hx hnt hys
  go_enter Tryz.func31, Tryz.ntmps31
  go_wp2_with fail
  refine HX.out.mono ?_
  rintro e w1 ⟨A1, c1, rfl, hat, hc1, hk⟩
  have hm1 := hmk w1
  have HAT := Lib.hid hat
  have HK := Lib.hid hk
  clear hat hk hmk HX
  go_wp2_with fail
  clear hm1
  go_loopw [6] (fun iv wr => ∃ j : Nat, j ≤ n ∧ j ≤ ys.length ∧ iv = .int .i64 (j : Int) ∧ OutRow w1.heap.size n j (num ys) w1 wr) (fun iv _ => n - (intOf iv).toNat)
  case atStart => exact ⟨0, Nat.zero_le _, Nat.zero_le _, rfl, by rw [tailOf_zero]; exact Blk.new w1 _ _, (Kept.refl _ w1).alloc _⟩
  case round =>
    obtain ⟨j, hj, hj2, rfl, ho⟩ := hrel
    have HO := Lib.hid ho
    by_cases h1 : j < n
    · by_cases h2 : j < ys.length
      · obtain ⟨x, hx⟩ : ∃ x, ys[ys.length - 1 - j]? = some x := ⟨_, List.getElem?_eq_getElem (by omega)⟩
        have hx2 : x = UInt8.ofNat (num ys / Pb j) := by
          have := enc_get ys.length (num ys) (ys.length - 1 - j) (by omega)
          rw [enc_num rfl, hx, show ys.length - 1 - (ys.length - 1 - j) = j by omega] at this
          exact Option.some.inj this
        obtain ⟨b, off, rfl, hb, hcell⟩ := (HAT.out.still ho.2).at_ (k := 0) (by omega)
        have cx : wr.cell? ⟨b, off + (ys.length - 1 - j), none⟩ = some (.int .u8 (x.toNat : Int)) := hcell _ x hx
        have co : wr.cell? ⟨w1.heap.size, n - 1 - j, none⟩ = some (.int .u8 (((tailOf n j (num ys))[n - 1 - j]'(by rw [tailOf_length]; omega)).toNat : Int)) :=
          ho.1.cellIs (by rw [List.getElem?_toArray, List.getElem?_map, List.getElem?_eq_getElem]; rfl)
        have hfr := ho.1.frozen (n - 1 - j)
        have e1 : (n : Int) - 1 - (j : Int) = ((n - 1 - j : Nat) : Int) := by omega
        have e2 : (ys.length : Int) - 1 - (j : Int) = ((ys.length - 1 - j : Nat) : Int) := by omega
        have HX2 := Lib.hid hx2
        clear ho hx hx2 hcell
        go_wp2_with fail
        go_roundw
        case rel =>
          refine ⟨j + 1, by omega, by omega, by go_num, HO.out.step h1 (Nat.le_refl _) (c := (x.toNat : Int)) ?_ rfl⟩
          rw [HX2.out, toNat_of]
        case measure => first | (simp [intOf]; done) | (simp [intOf]; omega)
      · obtain rfl : j = ys.length := by omega
        have hfin : MadeB (enc n (num ys)) w (.returned (.slice (some ⟨w1.heap.size, 0, none⟩) n n)) wr := by
          refine ⟨w1.heap.size, by rw [enc_length], HK.out.size, ?_, HK.out.none ho.2⟩
          have := ho.1
          unfold tailOf at this
          rw [Nat.mod_eq_of_lt (num_lt ys)] at this
          exact this
        have FIN := Lib.hid hfin
        clear hfin ho
        go_wp2_with fail
        go_ret
        exact FIN.out
    · obtain rfl : j = n := by omega
      have hfin : MadeB (enc j (num ys)) w (.returned (.slice (some ⟨w1.heap.size, 0, none⟩) j j)) wr := by
        refine ⟨w1.heap.size, by rw [enc_length], HK.out.size, ?_, HK.out.none ho.2⟩
        have := ho.1
        unfold tailOf at this
        rw [show enc j (num ys % Pb j) = enc j (num ys) from num_inj (by simp [enc_length]) (by rw [num_enc, num_enc, Nat.mod_mod])] at this
        exact this
      have FIN := Lib.hid hfin
      clear hfin ho
      go_wp2_with fail
      go_ret
      exact FIN.out

open Go.Op in
theorem bytesLess_num (xs ys : List UInt8) (hl : xs.length = ys.length) : bytesLess xs ys = decide (num xs < num ys) := by
  have h : bytesLess xs ys = true ↔ xs < ys := by
    clear hl
    induction xs generalizing ys with
    | nil => cases ys <;> simp [bytesLess]
    | cons x xs ih => cases ys with
      | nil => simp [bytesLess]
      | cons y ys => simp [bytesLess, ih, List.cons_lt_cons_iff]
  rw [Bool.eq_iff_iff, h, decide_eq_true_iff, lex_lt xs ys hl]

end Go.Proofs.YtdmpiecdpdknaaaGreatDoor
namespace Go.Proofs.YtdmpiecdpdknaaaGreatDoor
open Go.RowKit

theorem zeros_at {n : Nat} : ∀ j, j < n → (List.replicate n (0 : UInt8))[j]? = some 0 := by
  intro j h
  rw [List.getElem?_replicate, if_pos h]

/-- The state of a row that is made from its end. -/
def LowRow (g n t : Nat) (o : List UInt8) (w0 wr : World) : Prop := o.length = n ∧ (∀ j, j < n - t → o[j]? = some 0) ∧ Blk wr g 5 (o.map B).toArray ∧ Kept NoBlk w0 wr

theorem LowRow.start (w : World) (n : Nat) : LowRow w.heap.size n 0 (List.replicate n 0) w (w.alloc (.cells (zeroRow n) 5)) :=
  ⟨List.length_replicate, fun j h => zeros_at j (by omega), Blk.new w _ _, (Kept.refl _ w).alloc _⟩
theorem LowRow.step {g n t : Nat} {o : List UInt8} {w0 wr w' : World} {c : Int} {x : UInt8} (h : LowRow g n t o w0 wr) (ht : t < n) (hg : w0.heap.size ≤ g) (hc : c = (x.toNat : Int))
    (hw : w' = wr.setCell ⟨g, n - 1 - t, none⟩ (.int .u8 c)) : LowRow g n (t + 1) (o.set (n - 1 - t) x) w0 w' := by
  subst hw hc
  obtain ⟨h1, h2, h3, h4⟩ := h
  refine ⟨by rw [List.length_set, h1], fun j hj => ?_, ?_, h4.setNew hg _ _⟩
  · rw [List.getElem?_set_ne (by omega)]; exact h2 j (by omega)
  · have := h3.set_ (n - 1 - t) (.int .u8 (x.toNat : Int))
    rw [List.setIfInBounds_toArray] at this
    rw [List.map_set]; exact this
theorem LowRow.at_ {g n t : Nat} {o : List UInt8} {w0 wr : World} (h : LowRow g n t o w0 wr) (ht : t < n) : wr.cell? ⟨g, n - 1 - t, none⟩ = some (.int .u8 0) ∧ wr.frozen? ⟨g, n - 1 - t, none⟩ = false ∧ o[n - 1 - t]? = some 0 := by
  have h0 := h.2.1 (n - 1 - t) (by omega)
  exact ⟨h.2.2.1.cellIs (by rw [List.getElem?_toArray, List.getElem?_map, h0]; rfl), h.2.2.1.frozen _, h0⟩

theorem LowRow.drewN {g n t : Nat} {o : List UInt8} {w0 wr : World} (h : LowRow g n t o w0 wr) (k : Nat) : LowRow g n t o w0 (wr.drewN k) := ⟨h.1, h.2.1, h.2.2.1, h.2.2.2.drewN k⟩

/-- The sum and its carry. -/
def PlusB (n s : Nat) (w : World) (e : Ending) (w' : World) : Prop := ∃ g, e = .returned (.tuple #[.slice (some ⟨g, 0, none⟩) n n, .int .i64 ((s / Pb n : Nat) : Int)]) ∧ w.heap.size ≤ g ∧ Blk w' g 5 ((enc n s).map B).toArray ∧ Kept NoBlk w w'

theorem plus_any (w : World) (A A' : Option Addr) (c c' n : Nat) (xs ys : List UInt8) (hx : BytesAt w A xs) (hy : BytesAt w A' ys) (hxl : xs.length = n) (hyl : ys.length = n) (hl : n ≤ 1000000) :
    Calls Tryz.prog 30 #[.slice A n c, .slice A' n c'] w (PlusB n (num xs + num ys) w) := by
  have hmk := make_bytes w n (by omega)
  have HX := Lib.hid hx
  have HY := Lib.hid hy
  have HXL := Lib.hid hxl
  have HYL := Lib.hid hyl
  clear hx hy hxl hyl
  go_enter Tryz.func30, Tryz.ntmps30
  go_wp2_with fail
  clear hmk
  go_loopw [7, 8] (fun cv iv wr => ∃ (t k : Nat) (o : List UInt8), t ≤ n ∧ k ≤ 1 ∧ cv = .int .i64 (k : Int) ∧ iv = .int .i64 ((n : Int) - t - 1) ∧ LowRow w.heap.size n t o w wr ∧ num o + k * Pb t = num (xs.drop (n - t)) + num (ys.drop (n - t))) (fun _ iv _ => (intOf iv + 1).toNat)
  case atStart => exact ⟨0, 0, _, Nat.zero_le _, by omega, rfl, by go_num, LowRow.start w n, by
    rw [num_zeros, Nat.zero_mul, Nat.sub_zero, ← HXL.out, num_drop_all, HXL.out, ← HYL.out, num_drop_all]⟩
  case round =>
    obtain ⟨t, k, o, ht, hk, rfl, hiv, hrow, hsum⟩ := hrel
    rcases Nat.lt_or_ge t n with hlt | hge
    · have hin : (n : Int) - t - 1 = ((n - 1 - t : Nat) : Int) := by omega
      rw [hin] at hiv
      subst hiv
      obtain ⟨x, hxi⟩ : ∃ x, xs[n - 1 - t]? = some x := ⟨_, List.getElem?_eq_getElem (by rw [HXL.out]; omega)⟩
      obtain ⟨y, hyi⟩ : ∃ y, ys[n - 1 - t]? = some y := ⟨_, List.getElem?_eq_getElem (by rw [HYL.out]; omega)⟩
      obtain ⟨b, off, rfl, hb, hcell⟩ := (HX.out.still hrow.2.2.2).at_ (k := 0) (by rw [HXL.out]; omega)
      obtain ⟨b', off', rfl, hb', hcell'⟩ := (HY.out.still hrow.2.2.2).at_ (k := 0) (by rw [HYL.out]; omega)
      have cx : wr.cell? ⟨b, off + (n - 1 - t), none⟩ = some (.int .u8 (x.toNat : Int)) := hcell _ x hxi
      have cy : wr.cell? ⟨b', off' + (n - 1 - t), none⟩ = some (.int .u8 (y.toNat : Int)) := hcell' _ y hyi
      obtain ⟨co, cf, c0⟩ := hrow.at_ hlt
      have hnx : ∀ z : UInt8, _ := fun z => plus_step o xs ys n (n - 1 - t) k x y (by omega) HXL.out HYL.out hrow.1 hxi hyi c0 (by rw [show n - 1 - (n - 1 - t) = t by omega, show n - 1 - t + 1 = n - t by omega]; exact hsum)
      have hn2 := hnx 0
      rw [show n - (n - 1 - t) = t + 1 by omega, show n - 1 - t = n - (t + 1) by omega] at hn2
      have bx := byte_le x
      have by_ := byte_le y
      have hi1 : ((n - 1 - t : Nat) : Int) < (n : Int) := by omega
      obtain ⟨m, hm⟩ : ∃ m, k + (x.toNat + y.toNat) = m := ⟨_, rfl⟩
      have hmi : (k : Int) + ((x.toNat : Int) + (y.toNat : Int)) = (m : Int) := by omega
      have hm511 : m ≤ 511 := by omega
      rw [hm] at hn2
      have HROW := Lib.hid hrow
      have HN2 := Lib.hid hn2
      have HIN := Lib.hid hin
      clear hcell hcell' hxi hyi c0 hsum hrow hnx hn2 hm hin
      go_wp2_with fail
      go_quiet (fail)
      go_wp2_with fail
      go_roundw
      case rel =>
        have h := (HROW.out.drewN nq).step (x := UInt8.ofNat m) hlt (Nat.le_refl _) (c := (m : Int) % 256) (by rw [toNat_of]; rfl) rfl
        rw [show n - 1 - t = n - (t + 1) by omega] at h
        refine ⟨t + 1, m / 256, o.set (n - (t + 1)) (UInt8.ofNat m), by omega, by omega, by rfl, ?_, ?_, HN2.out⟩
        · rw [← HIN.out, show (n : Int) - t - 1 - 1 = (n : Int) - (t + 1 : Nat) - 1 by omega]
        · rw [show n - 1 - t = n - (t + 1) by omega]; exact h
      case measure => first | (simp [intOf]; done) | (simp [intOf]; omega)
    · obtain rfl : t = n := by omega
      subst hiv
      have hend := plus_end o t k _ hrow.1 hsum
      rw [Nat.sub_self, List.drop_zero, List.drop_zero] at hend
      have hfin : PlusB t (num xs + num ys) w (.returned (.tuple #[.slice (some ⟨w.heap.size, 0, none⟩) t t, .int .i64 (k : Int)])) wr := by
        rw [hend.2]
        exact ⟨_, rfl, Nat.le_refl _, hend.1 ▸ hrow.2.2.1, hrow.2.2.2⟩
      have FIN := Lib.hid hfin
      have hneg : ¬ (0 : Int) ≤ (t : Int) - t - 1 := by omega
      clear hfin hend hrow hsum
      go_wp2_with fail
      go_ret2
      exact FIN.out

theorem minus_any (w : World) (A A' : Option Addr) (c c' n : Nat) (xs ys : List UInt8) (hx : BytesAt w A xs) (hy : BytesAt w A' ys) (hxl : xs.length = n) (hyl : ys.length = n) (hl : n ≤ 1000000) :
    Calls Tryz.prog 39 #[.slice A n c, .slice A' n c'] w (MadeB (enc n (((num xs : Int) - num ys) % (Pb n : Nat)).toNat) w) := by
  have hmk := make_bytes w n (by omega)
  have HX := Lib.hid hx
  have HY := Lib.hid hy
  have HXL := Lib.hid hxl
  have HYL := Lib.hid hyl
  clear hx hy hxl hyl
  go_enter Tryz.func39, Tryz.ntmps39
  go_wp2_with fail
  clear hmk
  go_loopw [6, 7] (fun cv iv wr => ∃ (t : Nat) (k : Int) (o : List UInt8), t ≤ n ∧ -1 ≤ k ∧ k ≤ 0 ∧ cv = .int .i64 k ∧ iv = .int .i64 ((n : Int) - t - 1) ∧ LowRow w.heap.size n t o w wr ∧ (num o : Int) + k * (Pb t : Nat) = (num (xs.drop (n - t)) : Int) - num (ys.drop (n - t))) (fun _ iv _ => (intOf iv + 1).toNat)
  case atStart => exact ⟨0, 0, _, Nat.zero_le _, by omega, by omega, rfl, by go_num, LowRow.start w n, by
    rw [num_zeros, Int.zero_mul, Nat.sub_zero, ← HXL.out, num_drop_all, HXL.out, ← HYL.out, num_drop_all]; rfl⟩
  case round =>
    obtain ⟨t, k, o, ht, hk1, hk2, rfl, hiv, hrow, hsum⟩ := hrel
    rcases Nat.lt_or_ge t n with hlt | hge
    · have hin : (n : Int) - t - 1 = ((n - 1 - t : Nat) : Int) := by omega
      rw [hin] at hiv
      subst hiv
      obtain ⟨x, hxi⟩ : ∃ x, xs[n - 1 - t]? = some x := ⟨_, List.getElem?_eq_getElem (by rw [HXL.out]; omega)⟩
      obtain ⟨y, hyi⟩ : ∃ y, ys[n - 1 - t]? = some y := ⟨_, List.getElem?_eq_getElem (by rw [HYL.out]; omega)⟩
      obtain ⟨b, off, rfl, hb, hcell⟩ := (HX.out.still hrow.2.2.2).at_ (k := 0) (by rw [HXL.out]; omega)
      obtain ⟨b', off', rfl, hb', hcell'⟩ := (HY.out.still hrow.2.2.2).at_ (k := 0) (by rw [HYL.out]; omega)
      have cx : wr.cell? ⟨b, off + (n - 1 - t), none⟩ = some (.int .u8 (x.toNat : Int)) := hcell _ x hxi
      have cy : wr.cell? ⟨b', off' + (n - 1 - t), none⟩ = some (.int .u8 (y.toNat : Int)) := hcell' _ y hyi
      obtain ⟨co, cf, c0⟩ := hrow.at_ hlt
      have hn2 := minus_step o xs ys n (n - 1 - t) k x y (by omega) HXL.out HYL.out hrow.1 hxi hyi c0 (by rw [show n - 1 - (n - 1 - t) = t by omega, show n - 1 - t + 1 = n - t by omega]; exact hsum)
      rw [show n - (n - 1 - t) = t + 1 by omega, show n - 1 - t = n - (t + 1) by omega] at hn2
      have bx := byte_le x
      have by_ := byte_le y
      have hi1 : ((n - 1 - t : Nat) : Int) < (n : Int) := by omega
      obtain ⟨m, hm⟩ : ∃ m, k + ((x.toNat : Int) - (y.toNat : Int)) = m := ⟨_, rfl⟩
      have hm1 : -256 ≤ m := by omega
      have hm2 : m ≤ 255 := by omega
      rw [hm] at hn2
      have HROW := Lib.hid hrow
      have HN2 := Lib.hid hn2
      have HIN := Lib.hid hin
      clear hcell hcell' hxi hyi c0 hsum hrow hn2 hin
      go_wp2_with fail
      go_quiet (fail)
      go_wp2_with fail
      go_roundw
      case rel =>
        have h := (HROW.out.drewN nq).step (x := UInt8.ofNat (m % 256).toNat) hlt (Nat.le_refl _) (c := m % 256) (by rw [toNat_of]; omega) rfl
        rw [show n - 1 - t = n - (t + 1) by omega] at h
        refine ⟨t + 1, m / 256, o.set (n - (t + 1)) (UInt8.ofNat (m % 256).toNat), by omega, by omega, by omega, by rfl, ?_, ?_, HN2.out⟩
        · rw [← HIN.out, show (n : Int) - t - 1 - 1 = (n : Int) - (t + 1 : Nat) - 1 by omega]
        · rw [show n - 1 - t = n - (t + 1) by omega]; exact h
      case measure => first | (simp [intOf]; done) | (simp [intOf]; omega)
    · obtain rfl : t = n := by omega
      subst hiv
      have hend := minus_end o t k (num xs) (num ys) hrow.1 (by rw [Nat.sub_self, List.drop_zero, List.drop_zero] at hsum; exact hsum)
      have hfin : MadeB (enc t (((num xs : Int) - num ys) % (Pb t : Nat)).toNat) w (.returned (.slice (some ⟨w.heap.size, 0, none⟩) t t)) wr := by
        rw [← hend]
        exact ⟨_, by rw [hrow.1], Nat.le_refl _, hrow.2.2.1, hrow.2.2.2⟩
      have FIN := Lib.hid hfin
      have hneg : ¬ (0 : Int) ≤ (t : Int) - t - 1 := by omega
      clear hfin hend hrow hsum
      go_wp2_with fail
      go_ret
      exact FIN.out

end Go.Proofs.YtdmpiecdpdknaaaGreatDoor
namespace Go.Proofs.YtdmpiecdpdknaaaGreatDoor
open Go.RowKit

theorem and_one_i64 (x : Nat) (hx : x < 9223372036854775808) : bits .and .i64 (x : Int) 1 = ((x % 2 : Nat) : Int) := by
  have h1 : (BitVec.ofInt 64 (x : Int)).toNat = x := by
    rw [BitVec.ofInt_natCast, BitVec.toNat_ofNat]; exact Nat.mod_eq_of_lt (by omega)
  have h2 : (BitVec.ofInt 64 ((1 : Nat) : Int)).toNat = 1 := by
    rw [BitVec.ofInt_natCast, BitVec.toNat_ofNat]
  show IntKind.i64.wrap ((BitVec.ofInt 64 (x : Int) &&& BitVec.ofInt 64 ((1 : Nat) : Int)).toNat : Int) = _
  rw [BitVec.toNat_and, h1, h2, Nat.and_one_is_mod]
  exact IntWalk.i64_in _ (by omega)

theorem shr_natE (e s g : Nat) (h : e / 2 ^ s = g) : (e : Int) / 2 ^ s = (g : Int) := by rw [← h]; simp
theorem shr_two (e s : Nat) : e / 2 ^ s = 2 * (e / 2 ^ (s + 1)) + e / 2 ^ s % 2 := by
  rw [Nat.pow_succ, ← Nat.div_div_eq_div_mul]; omega

theorem rest_any (w : World) (A : Option Addr) (c n : Nat) (xs : List UInt8) (hx : BytesAt w A xs) (hl : xs.length ≤ 1000000) (hn : 0 < n) (hn2 : n ≤ 1000000) :
    Calls Tryz.prog 28 #[.slice A xs.length c, .int .i64 (n : Int)] w fun e w' => e = .returned (.int .i64 ((num xs % n : Nat) : Int)) ∧ w = w' := by
  have HX := Lib.hid hx
  clear hx
  go_enter Tryz.func28, Tryz.ntmps28
  go_wp2_with fail
  go_loop [5, 10] (fun rv iv => ∃ i : Nat, i ≤ xs.length ∧ iv = .int .i64 (i : Int) ∧ rv = .int .i64 ((num (xs.take i) % n : Nat) : Int)) (fun _ iv => xs.length - (intOf iv).toNat)
  case atStart => exact ⟨0, Nat.zero_le _, rfl, by simp [num]⟩
  case round =>
    obtain ⟨i, hi, rfl, rfl⟩ := hrel
    rcases Nat.lt_or_ge i xs.length with hlt | hge
    · obtain ⟨x, hxi⟩ : ∃ x, xs[i]? = some x := ⟨_, List.getElem?_eq_getElem hlt⟩
      obtain ⟨b, off, rfl, hb, hcell⟩ := HX.out.at_ (k := 0) (by omega)
      have cx : w.cell? ⟨b, off + i, none⟩ = some (.int .u8 (x.toNat : Int)) := hcell _ x hxi
      have htk : num (xs.take (i + 1)) = num (xs.take i) * 256 + x.toNat := by
        rw [List.take_add_one, hxi]; exact num_snoc _ _
      obtain ⟨p, hp⟩ : ∃ p, num (xs.take i) = p := ⟨_, rfl⟩
      rw [hp] at htk ⊢
      obtain ⟨r, hr⟩ : ∃ r, p % n = r := ⟨_, rfl⟩
      have hst := (over_step p x.toNat n hn).1
      rw [hr] at hst ⊢
      have hrn : r < n := by rw [← hr]; exact Nat.mod_lt _ hn
      have bx := byte_le x
      have hmod : (256 * (r : Int) + (x.toNat : Int)).tmod (n : Int) = (((256 * r + x.toNat) % n : Nat) : Int) := by
        rw [Int.tmod_eq_emod_of_nonneg (by omega)]; simp
      have HH := Lib.hid (htk.symm ▸ hst)
      have hne : ((n : Int) == 0) = false := by rw [beq_eq_false_iff_ne]; omega
      clear hxi hcell htk hst hr hp
      go_wp2_with fail
      go_round
      case rel => exact ⟨i + 1, by omega, by go_num, by rw [← HH.out]; simp⟩
      case measure => first | (simp [intOf]; done) | (simp [intOf]; omega)
    · obtain rfl : i = xs.length := by omega
      rw [List.take_length]
      go_wp2_with fail
      go_ret
      exact ⟨rfl, rfl⟩

end Go.Proofs.YtdmpiecdpdknaaaGreatDoor
