/-
  The walk of FnMaskBack (printed by gen_mlaw.py).
-/
import Derived.Test.YtgkfnmmajehobaaMask
import Derived.Test.YtgkfnmmajehobaaLong
namespace Go.Proofs.Ytgkfnmmajehobaa
open Go.RowKit

/-- The stream that a hash makes of a seed. -/
def maskS (ks : List Int) (k s b : Int) (seed : List UInt8) : Nat → UInt8 := if k = 1 then mgfS (shaFn ks) 32 seed else mgfS (ownF (ownN s b)) (ownN s b) seed
theorem mask_any (ks : List Int) (k s b : Int) (hs : -9223372036854775808 ≤ s ∧ s ≤ 9223372036854775807) (w : World) (A : Option Addr) (c n : Nat) (data : List UInt8) (SA : Option Addr) (sc : Nat) (seed : List UInt8) (hk : KAt w ks) (hd : BytesAt w A data) (hsd : BytesAt w SA seed) (hn : data.length = n) (hdl : n ≤ 65536) (hsl : seed.length ≤ 65536) :
    Calls Try.prog 5 #[.agg #[.int .i64 k, .int .i64 s, .int .i64 b], .slice SA seed.length sc, .slice A n c] w fun e w' => ∃ A2 c2, e = .returned (.slice A2 n c2) ∧ n ≤ c2 ∧ BytesAt w' A2 (xorS (maskS ks k s b seed) data) ∧ Kept NoBlk w w' := by
  subst hn
  unfold maskS
  by_cases h : k = 1
  · subst h
    rw [if_pos rfl]
    exact mask_sha ks s b hs w A c data SA sc seed hk hd hsd hdl hsl
  · rw [if_neg h]
    exact mask_own k s b hs w A c data SA sc seed h hd hsd hdl hsl

theorem lensOf_two (p q : Piece) : lensOf [p, q] = p.2.1 + q.2.1 := by simp [lensOf]

set_option maxHeartbeats 4000000 in
set_option maxRecDepth 20000 in
theorem fnMaskBack_walk (ks : List Int) (k s b : Int) (A1 : Option Addr) (cap1 : Nat) (seed : List UInt8) (A2 : Option Addr) (cap2 : Nat) (data : List UInt8) (u : Int) (w : World) (hka : KAt w ks) (_hk : -9223372036854775808 ≤ k ∧ k ≤ 9223372036854775807) (hs : -9223372036854775808 ≤ s ∧ s ≤ 9223372036854775807) (_hb : -9223372036854775808 ≤ b ∧ b ≤ 9223372036854775807) (hx1 : BytesAt w A1 seed) (hc1 : seed.length ≤ cap1) (hm1 : cap1 ≤ maxLen) (hx2 : BytesAt w A2 data) (hc2 : data.length ≤ cap2) (hm2 : cap2 ≤ maxLen) (hu0 : 0 ≤ u) (hu1 : u ≤ 65535) :
    Calls Try.prog 3 #[.agg #[.int .i64 k, .int .i64 s, .int .i64 b], .slice A1 seed.length cap1, .slice A2 data.length cap2, .int .u16 u] w fun e w' => e = .returned (.bool true) ∧ Kept NoBlk w w' := by
  unfold maxLen at hm1 hm2
  obtain ⟨ls, hls⟩ : ∃ ls, seed.length = ls := ⟨_, rfl⟩
  obtain ⟨ld, hld⟩ : ∃ ld, data.length = ld := ⟨_, rfl⟩
  rw [hls] at hc1 ⊢
  rw [hld] at hc2 ⊢
  by_cases h1 : 2147483647 < ls
  · have h1i : (2147483647 : Int) < (ls : Int) := by omega
    go_enter Try.func3, Try.ntmps3
    go_wp2_with fail
    go_ret
    exact ⟨rfl, (Kept.refl _ _).alloc _⟩
  have h1i : ¬ (2147483647 : Int) < (ls : Int) := by omega
  by_cases h2 : 2147483647 < ld
  · have h2i : (2147483647 : Int) < (ld : Int) := by omega
    go_enter Try.func3, Try.ntmps3
    go_wp2_with fail
    go_ret
    exact ⟨rfl, (Kept.refl _ _).alloc _⟩
  have h2i : ¬ (2147483647 : Int) < (ld : Int) := by omega
  have hbx := Blk.new w 23 #[.int .i64 k, .int .i64 s, .int .i64 b]
  have k0 : Kept NoBlk w (w.alloc (.cells #[.int .i64 k, .int .i64 s, .int .i64 b] 23)) := (Kept.refl _ w).alloc _
  obtain ⟨w0, hw0⟩ : ∃ w0, w.alloc (.cells #[.int .i64 k, .int .i64 s, .int .i64 b] 23) = w0 := ⟨_, rfl⟩
  rw [hw0] at hbx k0
  have hlong := long_any w0.heap.size [(A1, ls, cap1), (A2, ld, cap2)] (w0.alloc (.cells #[.slice A1 ls cap1, .slice A2 ld cap2] 24))
    (at_new w0 24 ([(A1, ls, cap1), (A2, ld, cap2)].map Piece.val)) (by simp) (by
      intro p hp
      simp only [List.mem_cons, List.not_mem_nil, or_false] at hp
      rcases hp with rfl | rfl
      · show ls ≤ 2147483647; omega
      · show ld ≤ 2147483647; omega)
  rw [lensOf_two] at hlong
  obtain ⟨w1, hw1⟩ : ∃ w1, w0.alloc (.cells #[.slice A1 ls cap1, .slice A2 ld cap2] 24) = w1 := ⟨_, rfl⟩
  have k1 : Kept NoBlk w w1 := by rw [← hw1]; exact k0.alloc _
  have hb1 : Blk w1 w.heap.size 23 #[.int .i64 k, .int .i64 s, .int .i64 b] := by rw [← hw1]; exact hbx.alloc _
  rw [hw1] at hlong
  by_cases h3 : 65536 < ls + ld
  · rw [decide_eq_true (by simpa using h3)] at hlong
    have HL := Lib.hid hlong
    have HK := Lib.hid k1
    clear hlong k1
    go_enter Try.func3, Try.ntmps3
    go_wp2_with fail
    refine HL.out.mono ?_
    rintro e w' ⟨rfl, rfl⟩
    go_wp2_with fail
    go_ret
    exact ⟨rfl, HK.out⟩
  rw [decide_eq_false (by simpa using h3)] at hlong
  have c0 : w1.cell? ⟨w.heap.size, 0, none⟩ = some (.int .i64 k) := hb1.cellIs rfl
  have cs : w1.cell? ⟨w.heap.size, 1, none⟩ = some (.int .i64 s) := hb1.cellIs rfl
  have cb : w1.cell? ⟨w.heap.size, 2, none⟩ = some (.int .i64 b) := hb1.cellIs rfl
  have hlt := hb1.lt
  obtain ⟨S, hS⟩ : ∃ S, maskS ks k s b seed = S := ⟨_, rfl⟩
  have CM : Hid (∀ (w' : World) (A : Option Addr) (c n : Nat) (xs : List UInt8), Kept NoBlk w1 w' → BytesAt w' A xs → xs.length = n → n ≤ 65536 → Calls Try.prog 5 #[.agg #[.int .i64 k, .int .i64 s, .int .i64 b], .slice A1 ls cap1, .slice A n c] w' fun e w'' => ∃ A2 c2, e = .returned (.slice A2 n c2) ∧ n ≤ c2 ∧ BytesAt w'' A2 (xorS S xs) ∧ Kept NoBlk w' w'') := Lib.hid (fun w' A c n xs kk hx hn hl => by
    have h := mask_any ks k s b hs w' A c n xs A1 cap1 seed (hka.kept (k1.trans kk) (fun e => e)) hx ((hx1.still k1).still kk) hn hl (by omega)
    rw [hls, hS] at h
    exact h)
  have C1 := Lib.hid (CM.out w1 A2 cap2 ld data (Kept.refl _ _) (hx2.still k1) hld (by omega))
  have HL := Lib.hid hlong
  have HK1 := Lib.hid k1
  have HX2 := Lib.hid (hx2.still k1)
  have HLD := Lib.hid hld
  clear hbx k0 hlong hb1 hka hx1 hx2 k1 hS hld hls
  obtain ⟨U, hU⟩ : ∃ U : Nat, u = (U : Int) := ⟨u.toNat, by omega⟩
  subst hU
  obtain ⟨q, hq⟩ : ∃ q, U % (ld + 1) = q := ⟨_, rfl⟩
  have hql : q ≤ ld := by have := Nat.mod_lt U (show 0 < ld + 1 by omega); omega
  have e1 : IntKind.i64.wrap ((ld : Int) + 1) = (ld : Int) + 1 := by rw [IntKind.wrap_i64]; omega
  have e2 : IntKind.i64.wrap (U : Int) = (U : Int) := by rw [IntKind.wrap_i64]; omega
  have e3 : ((ld : Int) + 1 == 0) = false := by rw [beq_eq_false_iff_ne]; omega
  have e4 : (U : Int).tmod ((ld : Int) + 1) = (q : Int) := by
    rw [Int.tmod_eq_emod_of_nonneg (by omega), ← hq]
    simp
  have e5 : IntKind.i64.wrap (q : Int) = (q : Int) := by rw [IntKind.wrap_i64]; omega
  have hq0 : (0 : Int) ≤ (q : Int) := by omega
  have hqc : (q : Int) ≤ (cap2 : Int) := by omega
  clear hq
  go_enter Try.func3, Try.ntmps3
  go_wp2_with fail
  refine HL.out.mono ?_
  rintro e w' ⟨rfl, rfl⟩
  go_wp2_with fail
  refine C1.out.mono ?_
  rintro e w2 ⟨A3, c3, rfl, hc3, hat3, k2⟩
  have d0 : w2.cell? ⟨w.heap.size, 0, none⟩ = some (.int .i64 k) := (k2.cell (p := ⟨w.heap.size, 0, none⟩) hlt (fun e => e)).trans c0; have ds : w2.cell? ⟨w.heap.size, 1, none⟩ = some (.int .i64 s) := (k2.cell (p := ⟨w.heap.size, 1, none⟩) hlt (fun e => e)).trans cs; have db : w2.cell? ⟨w.heap.size, 2, none⟩ = some (.int .i64 b) := (k2.cell (p := ⟨w.heap.size, 2, none⟩) hlt (fun e => e)).trans cb
  have HAT3 := Lib.hid hat3
  have K2 := Lib.hid k2
  clear hat3 k2 C1 HL
  have hqc3 : (q : Int) ≤ (c3 : Int) := by omega
  have hxl := xorS_length S data
  have C2 : Hid (Calls Try.prog 5 #[.agg #[.int .i64 k, .int .i64 s, .int .i64 b], .slice A1 ls cap1, .slice A3 ld c3] w2.drew fun e w'' => ∃ A2 c2, e = .returned (.slice A2 ld c2) ∧ ld ≤ c2 ∧ BytesAt w'' A2 data ∧ Kept NoBlk w2.drew w'') := Lib.hid (by
    have h := CM.out w2.drew A3 c3 ld (xorS S data) (K2.out.drew) (HAT3.out.still (Kept.refl NoBlk w2).drew) (hxl.trans HLD.out) (by omega)
    rw [xorS_twice] at h
    exact h)
  have C3 : Hid (∀ (w' : World) (A : Option Addr) (c : Nat), Kept NoBlk w2 w' → BytesAt w' A data → Calls Try.prog 6 #[.slice A ld c, .slice A2 ld cap2] w' fun e w'' => e = .returned (.bool true) ∧ w' = w'') := Lib.hid (fun w' A c kk hx => by
    have h := same_any w' A A2 c cap2 data data hx (HX2.out.still (K2.out.trans kk))
    rw [HLD.out, beq_self_eq_true] at h
    exact h)
  have htl : (data.take q).length = q := by rw [List.length_take, HLD.out]; omega
  have hxtl : ((xorS S data).take q).length = q := by rw [List.length_take, hxl, HLD.out]; omega
  have C4 : Hid (∀ w' : World, Kept NoBlk w2 w' → Calls Try.prog 5 #[.agg #[.int .i64 k, .int .i64 s, .int .i64 b], .slice A1 ls cap1, .slice A2 q cap2] w' fun e w'' => ∃ A2 c2, e = .returned (.slice A2 q c2) ∧ q ≤ c2 ∧ BytesAt w'' A2 ((xorS S data).take q) ∧ Kept NoBlk w' w'') := Lib.hid (fun w' kk => by
    have hat : BytesAt w1 A2 (data.take q) := by
      have h := At.take HX2.out q
      rw [← List.map_take] at h
      exact h
    have h := CM.out w' A2 cap2 q (data.take q) (K2.out.trans kk) (hat.still (K2.out.trans kk)) htl (by omega)
    rw [xorS_take] at h
    exact h)
  have C5 : Hid (∀ (w' : World) (A : Option Addr) (c : Nat), Kept NoBlk w2 w' → BytesAt w' A ((xorS S data).take q) → Calls Try.prog 6 #[.slice A q c, .slice A3 q c3] w' fun e w'' => e = .returned (.bool true) ∧ w' = w'') := Lib.hid (fun w' A c kk hx => by
    have hat : BytesAt w2 A3 ((xorS S data).take q) := by
      have h := At.take HAT3.out q
      rw [← List.map_take] at h
      exact h
    have h := same_any w' A A3 c c3 _ _ hx (hat.still kk)
    rw [hxtl, beq_self_eq_true] at h
    exact h)
  have hlt2 : w.heap.size < w2.heap.size := Nat.lt_of_lt_of_le hlt K2.out.size
  clear CM hxl htl hxtl HAT3 HX2 HLD
  go_wp2_with fail
  go_region_held3 (fun w' => w'.cell? ⟨w.heap.size, 0, none⟩ = some (.int .i64 k) ∧ w'.cell? ⟨w.heap.size, 1, none⟩ = some (.int .i64 s) ∧ w'.cell? ⟨w.heap.size, 2, none⟩ = some (.int .i64 b)) (go_keep) (first
    | (go_at_call 5; (with_reducible refine C2.out.mono ?_); rintro x w3 ⟨A4, c4, rfl, hc4, hat4, k3a⟩; have k3 : Kept NoBlk w2 w3 := ((Kept.refl NoBlk w2).drew).trans k3a; have e0 : w3.cell? ⟨w.heap.size, 0, none⟩ = some (.int .i64 k) := (k3.cell (p := ⟨w.heap.size, 0, none⟩) hlt2 (fun e => e)).trans d0; have es : w3.cell? ⟨w.heap.size, 1, none⟩ = some (.int .i64 s) := (k3.cell (p := ⟨w.heap.size, 1, none⟩) hlt2 (fun e => e)).trans ds; have eb : w3.cell? ⟨w.heap.size, 2, none⟩ = some (.int .i64 b) := (k3.cell (p := ⟨w.heap.size, 2, none⟩) hlt2 (fun e => e)).trans db)
    | (go_at_call 6; (with_reducible refine (C3.out w3 A4 c4 k3 hat4).mono ?_); rintro x w3b ⟨rfl, rfl⟩)
    | (go_at_call 5; (with_reducible refine (C4.out w3 k3).mono ?_); rintro x w4 ⟨A5, c5, rfl, hc5, hat5, k4a⟩; have k4 := k3.trans k4a; have f0 : w4.cell? ⟨w.heap.size, 0, none⟩ = some (.int .i64 k) := (k4.cell (p := ⟨w.heap.size, 0, none⟩) hlt2 (fun e => e)).trans d0; have fs : w4.cell? ⟨w.heap.size, 1, none⟩ = some (.int .i64 s) := (k4.cell (p := ⟨w.heap.size, 1, none⟩) hlt2 (fun e => e)).trans ds; have fb : w4.cell? ⟨w.heap.size, 2, none⟩ = some (.int .i64 b) := (k4.cell (p := ⟨w.heap.size, 2, none⟩) hlt2 (fun e => e)).trans db)
    | (go_at_call 6; (with_reducible refine (C5.out w4 A5 c5 k4 hat5).mono ?_); rintro x w4b ⟨rfl, rfl⟩))
  all_goals
    go_wp2_with fail
    go_ret
    exact ⟨rfl, HK1.out.trans (K2.out.trans k4)⟩

end Go.Proofs.Ytgkfnmmajehobaa
