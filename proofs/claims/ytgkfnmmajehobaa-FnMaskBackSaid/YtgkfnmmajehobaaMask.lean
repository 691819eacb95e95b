/-
  impl.Mask (printed by gen_mask.py).
-/
import Derived.Test.YtgkfnmmajehobaaMade
import Derived.Test.YtgkfnmmajehobaaZz
namespace Go.Proofs.Ytgkfnmmajehobaa
open Go.RowKit

set_option maxHeartbeats 4000000 in
theorem mask_sha (ks : List Int) (s b : Int) (hs : -9223372036854775808 ≤ s ∧ s ≤ 9223372036854775807) (w : World) (A : Option Addr) (c : Nat) (data : List UInt8) (SA : Option Addr) (sc : Nat) (seed : List UInt8) (hk : KAt w ks) (hd : BytesAt w A data) (hsd : BytesAt w SA seed) (hdl : data.length ≤ 65536) (hsl : seed.length ≤ 65536) :
    Calls Try.prog 5 #[.agg #[.int .i64 1, .int .i64 s, .int .i64 b], .slice SA seed.length sc, .slice A data.length c] w fun e w' => ∃ A2 c2, e = .returned (.slice A2 data.length c2) ∧ data.length ≤ c2 ∧ BytesAt w' A2 (xorS (mgfS (shaFn ks) 32 seed) data) ∧ Kept NoBlk w w' := by
  obtain ⟨w0, hw0⟩ : ∃ w0, w.alloc (.cells #[.int .i64 1, .int .i64 s, .int .i64 b] 23) = w0 := ⟨_, rfl⟩
  have hb := Blk.new w 23 #[.int .i64 1, .int .i64 s, .int .i64 b]
  rw [hw0] at hb
  have k0 : Kept NoBlk w w0 := by rw [← hw0]; exact (Kept.refl _ w).alloc _
  have c0 : w0.cell? ⟨w.heap.size, 0, none⟩ = some (.int .i64 1) := hb.cellIs rfl
  have cs : w0.cell? ⟨w.heap.size, 1, none⟩ = some (.int .i64 s) := hb.cellIs rfl
  have cb : w0.cell? ⟨w.heap.size, 2, none⟩ = some (.int .i64 b) := hb.cellIs rfl
  have hlt := hb.lt
  have C1 := Lib.hid (copied_any w0.drew A c data (hd.still k0.drew) (by omega))
  have HK0 := Lib.hid k0
  have CM := Lib.hid (fun w1 : World => madeSha_any s b ks w1)
  have C3 : Hid (∀ w', Kept NoBlk w0 w' → Calls Try.prog 8 #[.slice SA seed.length sc] w' (GivesBytes w'.heap.size seed w')) := Lib.hid (fun w' k => copied_any w' SA sc seed ((hsd.still k0).still k) (by omega))
  have h00 : 0 < w0.heap.size := by omega
  have CZ : Hid (∀ (w1 w2 w3 : World) (A1 : Option Addr) (c1 : Nat) (A3 : Option Addr) (c3 : Nat) (o : Nat), Kept NoBlk w0 w1 → At w1 A1 (data.map B) → w1.heap.size ≤ o → ShaAt w2 o ks shaIV [] → Kept NoBlk w1 w2 → w3.ownsRow w2.heap.size 5 1 (.slice A3 seed.length c3) seed.length (seed.map B) → seed.length ≤ c3 → At w3 A3 (seed.map B) → Kept NoBlk w2 w3 →
      Calls Try.prog 7 #[.slice A1 data.length c1, .iface 38 (.pointer (some ⟨o, 0, none⟩)), .slice A3 seed.length c3] w3 (fun e w' => ∃ A2 c2, e = .returned (.slice A2 data.length c2) ∧ data.length ≤ c2 ∧ BytesAt w' A2 (xorS (mgfS (shaFn ks) 32 seed) data) ∧ Kept NoBlk w0 w')) := Lib.hid (by
    intro w1 w2 w3 A1 c1 A3 c3 o k1 hat1 ho1  hst k2 hown3 hc3 hat3 k3
    have z1 := k1.size
    have z2 := k2.size
    have z3 := k3.size
    have hol : o < w2.heap.size := by obtain ⟨x, _, _, hd⟩ := hst; exact Blk.lt hd
    have HZ := shaHasher o ks (by omega)
    have hst3 : ShaSt w3 o ks [] := ⟨((((hk.kept k0 (fun e => e)).kept k1 (fun e => e)).kept k2 (fun e => e)).kept k3 (fun e => e)), hst.kept k3 (fun e => e)⟩
    refine (zz_sha HZ w3 A1 c1 data A3 c3 seed ((At.still hat1 k2).still k3) hat3 (HZ.stAny hst3) ?_ ?_ (by decide) (by decide) hdl hsl hc3).mono ?_
    · rintro b (h | h)
      · have : b = o := h
        omega
      · omega
    · intro a e
      have := own_lt hown3 a e
      refine ⟨this.2, ?_⟩
      rintro (h | h)
      · have h2 : a.block = o := h
        omega
      · omega
    · rintro e w4 ⟨A4, c4, rfl, hc4, hat4, k4⟩
      exact ⟨A4, c4, rfl, hc4, hat4, ((k1.trans k2).trans k3).fresh k4 (by omega)⟩)
  have HSD := Lib.hid hsd
  have HKA := Lib.hid hk
  clear hb k0 hd hsd hk
  go_enter Try.func5, Try.ntmps5
  go_wp2_with fail
  go_region_held3 (fun w' => w'.cell? ⟨w.heap.size, 0, none⟩ = some (.int .i64 1) ∧ w'.cell? ⟨w.heap.size, 1, none⟩ = some (.int .i64 s) ∧ w'.cell? ⟨w.heap.size, 2, none⟩ = some (.int .i64 b)) (go_keep) (first
    | (go_at_call 8; (with_reducible refine C1.out.mono ?_); rintro x w1 ⟨v1, rfl, hown1, k1'⟩; obtain ⟨A1, c1, rfl, hc1, hm1, hat1, hb1⟩ := own_form hown1; have k1 : Kept NoBlk w0 w1 := ((Kept.refl NoBlk w0).drew).trans k1'; have d0 : w1.cell? ⟨w.heap.size, 0, none⟩ = some (.int .i64 1) := (k1.cell (p := ⟨w.heap.size, 0, none⟩) hlt (fun e => e)).trans c0; have ds : w1.cell? ⟨w.heap.size, 1, none⟩ = some (.int .i64 s) := (k1.cell (p := ⟨w.heap.size, 1, none⟩) hlt (fun e => e)).trans cs; have db : w1.cell? ⟨w.heap.size, 2, none⟩ = some (.int .i64 b) := (k1.cell (p := ⟨w.heap.size, 2, none⟩) hlt (fun e => e)).trans cb)
    | (go_at_call 9; refine (CM.out w1).mono ?_; rintro x w2 ⟨o, rfl, ho1, hst, k2⟩; have k12 := k1.trans k2; have e0 : w2.cell? ⟨w.heap.size, 0, none⟩ = some (.int .i64 1) := (k12.cell (p := ⟨w.heap.size, 0, none⟩) hlt (fun e => e)).trans c0; have es : w2.cell? ⟨w.heap.size, 1, none⟩ = some (.int .i64 s) := (k12.cell (p := ⟨w.heap.size, 1, none⟩) hlt (fun e => e)).trans cs; have eb : w2.cell? ⟨w.heap.size, 2, none⟩ = some (.int .i64 b) := (k12.cell (p := ⟨w.heap.size, 2, none⟩) hlt (fun e => e)).trans cb)
    | (go_at_call 8; refine (C3.out w2 k12).mono ?_; rintro x w3 ⟨v3, rfl, hown3, k3⟩; obtain ⟨A3, c3, rfl, hc3, hm3, hat3, hb3⟩ := own_form hown3; have k13 := k12.trans k3; have f0 : w3.cell? ⟨w.heap.size, 0, none⟩ = some (.int .i64 1) := (k13.cell (p := ⟨w.heap.size, 0, none⟩) hlt (fun e => e)).trans c0; have fs : w3.cell? ⟨w.heap.size, 1, none⟩ = some (.int .i64 s) := (k13.cell (p := ⟨w.heap.size, 1, none⟩) hlt (fun e => e)).trans cs; have fb : w3.cell? ⟨w.heap.size, 2, none⟩ = some (.int .i64 b) := (k13.cell (p := ⟨w.heap.size, 2, none⟩) hlt (fun e => e)).trans cb)
    | (go_at_call 7; refine (CZ.out w1 w2 w3 A1 c1 A3 c3 o k1 hat1 ho1  hst k2 hown3 hc3 hat3 k3).mono ?_; rintro x w4 ⟨A4, c4, rfl, hc4, hat4, k4⟩; have g0 : w4.cell? ⟨w.heap.size, 0, none⟩ = some (.int .i64 1) := (k4.cell (p := ⟨w.heap.size, 0, none⟩) hlt (fun e => e)).trans c0; have gs : w4.cell? ⟨w.heap.size, 1, none⟩ = some (.int .i64 s) := (k4.cell (p := ⟨w.heap.size, 1, none⟩) hlt (fun e => e)).trans cs; have gb : w4.cell? ⟨w.heap.size, 2, none⟩ = some (.int .i64 b) := (k4.cell (p := ⟨w.heap.size, 2, none⟩) hlt (fun e => e)).trans cb))
  all_goals
    go_wp2_with fail
    go_ret
    exact ⟨A4, c4, rfl, hc4, hat4, HK0.out.trans k4⟩

set_option maxHeartbeats 4000000 in
theorem mask_own (k : Int) (s b : Int) (hs : -9223372036854775808 ≤ s ∧ s ≤ 9223372036854775807) (w : World) (A : Option Addr) (c : Nat) (data : List UInt8) (SA : Option Addr) (sc : Nat) (seed : List UInt8) (hk1 : k ≠ 1) (hd : BytesAt w A data) (hsd : BytesAt w SA seed) (hdl : data.length ≤ 65536) (hsl : seed.length ≤ 65536) :
    Calls Try.prog 5 #[.agg #[.int .i64 k, .int .i64 s, .int .i64 b], .slice SA seed.length sc, .slice A data.length c] w fun e w' => ∃ A2 c2, e = .returned (.slice A2 data.length c2) ∧ data.length ≤ c2 ∧ BytesAt w' A2 (xorS (mgfS (ownF (ownN s b)) (ownN s b) seed) data) ∧ Kept NoBlk w w' := by
  obtain ⟨w0, hw0⟩ : ∃ w0, w.alloc (.cells #[.int .i64 k, .int .i64 s, .int .i64 b] 23) = w0 := ⟨_, rfl⟩
  have hb := Blk.new w 23 #[.int .i64 k, .int .i64 s, .int .i64 b]
  rw [hw0] at hb
  have k0 : Kept NoBlk w w0 := by rw [← hw0]; exact (Kept.refl _ w).alloc _
  have c0 : w0.cell? ⟨w.heap.size, 0, none⟩ = some (.int .i64 k) := hb.cellIs rfl
  have cs : w0.cell? ⟨w.heap.size, 1, none⟩ = some (.int .i64 s) := hb.cellIs rfl
  have cb : w0.cell? ⟨w.heap.size, 2, none⟩ = some (.int .i64 b) := hb.cellIs rfl
  have hlt := hb.lt
  have C1 := Lib.hid (copied_any w0.drew A c data (hd.still k0.drew) (by omega))
  have HK0 := Lib.hid k0
  have CM := Lib.hid (fun w1 : World => madeOwn_any k s b w1 hs hk1)
  have C3 : Hid (∀ w', Kept NoBlk w0 w' → Calls Try.prog 8 #[.slice SA seed.length sc] w' (GivesBytes w'.heap.size seed w')) := Lib.hid (fun w' k => copied_any w' SA sc seed ((hsd.still k0).still k) (by omega))
  have h00 : 0 < w0.heap.size := by omega
  have CZ : Hid (∀ (w1 w2 w3 : World) (A1 : Option Addr) (c1 : Nat) (A3 : Option Addr) (c3 : Nat) (o r : Nat) (bv : Value), Kept NoBlk w0 w1 → At w1 A1 (data.map B) → w1.heap.size ≤ o → w1.heap.size ≤ r → OwnAt w2 o r (ownN s b) bv (0, ownInit (ownN s b)) → Kept NoBlk w1 w2 → w3.ownsRow w2.heap.size 5 1 (.slice A3 seed.length c3) seed.length (seed.map B) → seed.length ≤ c3 → At w3 A3 (seed.map B) → Kept NoBlk w2 w3 →
      Calls Try.prog 7 #[.slice A1 data.length c1, .iface 40 (.pointer (some ⟨o, 0, none⟩)), .slice A3 seed.length c3] w3 (fun e w' => ∃ A2 c2, e = .returned (.slice A2 data.length c2) ∧ data.length ≤ c2 ∧ BytesAt w' A2 (xorS (mgfS (ownF (ownN s b)) (ownN s b) seed) data) ∧ Kept NoBlk w0 w')) := Lib.hid (by
    intro w1 w2 w3 A1 c1 A3 c3 o r bv k1 hat1 ho1 hr1 hst k2 hown3 hc3 hat3 k3
    have z1 := k1.size
    have z2 := k2.size
    have z3 := k3.size
    have hol : o < w2.heap.size := Blk.lt hst.1
    have hrl : r < w2.heap.size := Blk.lt hst.2.1
    have hnn := ownN_le s b
    have HZ := ownHasher o r (ownN s b) bv hnn.1 hnn.2
    have hst3 : OwnAt w3 o r (ownN s b) bv (0, ownInit (ownN s b)) := hst.kept k3 (fun e => e) (fun e => e)
    refine (zz_own HZ w3 A1 c1 data A3 c3 seed ((At.still hat1 k2).still k3) hat3 ⟨_, hst3⟩ ?_ ?_ hnn.1 (by omega) hdl hsl hc3).mono ?_
    · rintro b (h | h)
      · rcases h with h | h <;> omega
      · exact h.elim
    · intro a e
      have := own_lt hown3 a e
      refine ⟨this.2, ?_⟩
      rintro (h | h)
      · rcases h with h | h <;> omega
      · exact h
    · rintro e w4 ⟨A4, c4, rfl, hc4, hat4, k4⟩
      exact ⟨A4, c4, rfl, hc4, hat4, Kept.step ((k1.trans k2).trans k3) k4 (fun i hi h => by rcases h with h | h <;> omega)⟩)
  have HSD := Lib.hid hsd
  have HK1 := Lib.hid hk1
  clear hb k0 hd hsd hk1
  go_enter Try.func5, Try.ntmps5
  go_wp2_with fail
  go_region_held3 (fun w' => w'.cell? ⟨w.heap.size, 0, none⟩ = some (.int .i64 k) ∧ w'.cell? ⟨w.heap.size, 1, none⟩ = some (.int .i64 s) ∧ w'.cell? ⟨w.heap.size, 2, none⟩ = some (.int .i64 b)) (go_keep) (first
    | (go_at_call 8; (with_reducible refine C1.out.mono ?_); rintro x w1 ⟨v1, rfl, hown1, k1'⟩; obtain ⟨A1, c1, rfl, hc1, hm1, hat1, hb1⟩ := own_form hown1; have k1 : Kept NoBlk w0 w1 := ((Kept.refl NoBlk w0).drew).trans k1'; have d0 : w1.cell? ⟨w.heap.size, 0, none⟩ = some (.int .i64 k) := (k1.cell (p := ⟨w.heap.size, 0, none⟩) hlt (fun e => e)).trans c0; have ds : w1.cell? ⟨w.heap.size, 1, none⟩ = some (.int .i64 s) := (k1.cell (p := ⟨w.heap.size, 1, none⟩) hlt (fun e => e)).trans cs; have db : w1.cell? ⟨w.heap.size, 2, none⟩ = some (.int .i64 b) := (k1.cell (p := ⟨w.heap.size, 2, none⟩) hlt (fun e => e)).trans cb)
    | (go_at_call 9; refine (CM.out w1).mono ?_; rintro x w2 ⟨o, r, bv, rfl, ho1, hr1, hst, k2⟩; have k12 := k1.trans k2; have e0 : w2.cell? ⟨w.heap.size, 0, none⟩ = some (.int .i64 k) := (k12.cell (p := ⟨w.heap.size, 0, none⟩) hlt (fun e => e)).trans c0; have es : w2.cell? ⟨w.heap.size, 1, none⟩ = some (.int .i64 s) := (k12.cell (p := ⟨w.heap.size, 1, none⟩) hlt (fun e => e)).trans cs; have eb : w2.cell? ⟨w.heap.size, 2, none⟩ = some (.int .i64 b) := (k12.cell (p := ⟨w.heap.size, 2, none⟩) hlt (fun e => e)).trans cb)
    | (go_at_call 8; refine (C3.out w2 k12).mono ?_; rintro x w3 ⟨v3, rfl, hown3, k3⟩; obtain ⟨A3, c3, rfl, hc3, hm3, hat3, hb3⟩ := own_form hown3; have k13 := k12.trans k3; have f0 : w3.cell? ⟨w.heap.size, 0, none⟩ = some (.int .i64 k) := (k13.cell (p := ⟨w.heap.size, 0, none⟩) hlt (fun e => e)).trans c0; have fs : w3.cell? ⟨w.heap.size, 1, none⟩ = some (.int .i64 s) := (k13.cell (p := ⟨w.heap.size, 1, none⟩) hlt (fun e => e)).trans cs; have fb : w3.cell? ⟨w.heap.size, 2, none⟩ = some (.int .i64 b) := (k13.cell (p := ⟨w.heap.size, 2, none⟩) hlt (fun e => e)).trans cb)
    | (go_at_call 7; refine (CZ.out w1 w2 w3 A1 c1 A3 c3 o r bv k1 hat1 ho1 hr1 hst k2 hown3 hc3 hat3 k3).mono ?_; rintro x w4 ⟨A4, c4, rfl, hc4, hat4, k4⟩; have g0 : w4.cell? ⟨w.heap.size, 0, none⟩ = some (.int .i64 k) := (k4.cell (p := ⟨w.heap.size, 0, none⟩) hlt (fun e => e)).trans c0; have gs : w4.cell? ⟨w.heap.size, 1, none⟩ = some (.int .i64 s) := (k4.cell (p := ⟨w.heap.size, 1, none⟩) hlt (fun e => e)).trans cs; have gb : w4.cell? ⟨w.heap.size, 2, none⟩ = some (.int .i64 b) := (k4.cell (p := ⟨w.heap.size, 2, none⟩) hlt (fun e => e)).trans cb))
  all_goals
    go_wp2_with fail
    go_ret
    exact ⟨A4, c4, rfl, hc4, hat4, HK0.out.trans k4⟩

end Go.Proofs.Ytgkfnmmajehobaa
