/-
  sha256.Digest.checkSum (printed by gen_cs2.py).
-/
import Derived.Test.YtgkfnmmajehobaaShaC1
import Derived.Test.YtgkfnmmajehobaaShaWr
namespace Go.Proofs.Ytgkfnmmajehobaa
open Go.RowKit

noncomputable def csE0 : Code := (cl (Try.f35.body.getD .skip))
noncomputable def csE1 : Code := (cl (cr (Try.f35.body.getD .skip)))
noncomputable def csE2 : Code := (cl (cr (cr (Try.f35.body.getD .skip))))
noncomputable def csE3 : Code := (cl (cr (cr (cr (Try.f35.body.getD .skip)))))
noncomputable def csE4 : Code := (cl (cr (cr (cr (cr (Try.f35.body.getD .skip))))))
noncomputable def csE5 : Code := (cl (cr (cr (cr (cr (cr (Try.f35.body.getD .skip)))))))
noncomputable def csE6 : Code := (cl (cr (cr (cr (cr (cr (cr (Try.f35.body.getD .skip))))))))
noncomputable def csE7 : Code := (cl (cr (cr (cr (cr (cr (cr (cr (Try.f35.body.getD .skip)))))))))
noncomputable def csE8 : Code := (cl (cr (cr (cr (cr (cr (cr (cr (cr (Try.f35.body.getD .skip))))))))))
noncomputable def csE9 : Code := (cl (cr (cr (cr (cr (cr (cr (cr (cr (cr (Try.f35.body.getD .skip)))))))))))
noncomputable def csE10 : Code := (cl (cr (cr (cr (cr (cr (cr (cr (cr (cr (cr (Try.f35.body.getD .skip))))))))))))
noncomputable def csE11 : Code := (cl (cr (cr (cr (cr (cr (cr (cr (cr (cr (cr (cr (Try.f35.body.getD .skip)))))))))))))
noncomputable def csE20 : Code := (cl (cr (cr (cr (cr (cr (cr (cr (cr (cr (cr (cr (cr (cr (cr (cr (cr (cr (cr (cr (cr (Try.f35.body.getD .skip))))))))))))))))))))))
noncomputable def csT : Code := (cr (cr (cr (cr (cr (cr (cr (cr (cr (cr (cr (cr (Try.f35.body.getD .skip)))))))))))))
theorem csT_eq : csT = (.seq csP0 (.seq csP1 (.seq csP2 (.seq csP3 (.seq csP4 (.seq csP5 (.seq csP6 (.seq csL7 (.seq csE20 .ret))))))))) := by kernel_rfl
theorem csBody_eq : Try.f35.body = some (.seq csE0 (.seq csE1 (.seq csE2 (.seq csE3 (.seq csE4 (.seq csE5 (.seq csE6 (.seq csE7 (.seq csE8 (.seq csE9 (.seq csE10 (.seq csE11 csT)))))))))))) := by kernel_rfl

/-- How far the padding goes. -/
def padQ (n : Nat) : Nat := if n % 64 < 56 then 56 - n % 64 else 120 - n % 64
/-- The padding. -/
def padB (n : Nat) : List UInt8 := (splice (128 :: List.replicate 71 0) (padQ n) (be8U ((8 * n : Nat) : Int))).take (padQ n + 8)
theorem padQ_le (n : Nat) : 1 ≤ padQ n ∧ padQ n ≤ 64 ∧ (n + padQ n + 8) % 64 = 0 := by
  unfold padQ
  split <;> omega
theorem padB_length (n : Nat) : (padB n).length = padQ n + 8 := by
  unfold padB
  have := padQ_le n
  rw [List.length_take, splice_len _ _ _ (by rw [be8U_length, List.length_cons, List.length_replicate]; omega), List.length_cons, List.length_replicate]
  omega
/-- The sum's bytes. -/
def digB (h : Reg) : List UInt8 := be4U h.a ++ be4U h.b ++ be4U h.c ++ be4U h.d ++ be4U h.e ++ be4U h.f ++ be4U h.g ++ be4U h.h
def shaF (ks : List Int) (iv : Reg) (m : List UInt8) : List UInt8 := digB (shaH (blkS ks) iv (m ++ padB m.length))
theorem splice_app4 {α : Type} (L vs us : List α) (k : Nat) (hk : vs.length = k) (h : k + us.length ≤ L.length) : splice (splice L 0 vs) k us = splice L 0 (vs ++ us) := by
  subst hk
  have := splice_app L vs 0 us (by omega)
  rw [Nat.zero_add] at this
  exact this
theorem splice_all {α : Type} (L vs : List α) (h : vs.length = L.length) : splice L 0 vs = vs := by
  unfold splice
  rw [List.take_zero, List.nil_append, Nat.zero_add, h, List.drop_length, List.append_nil]
theorem splice_map {α β : Type} (f : α → β) (L vs : List α) (k : Nat) : splice (L.map f) k (vs.map f) = (splice L k vs).map f := by
  unfold splice
  rw [List.map_append, List.map_append, List.map_take, List.map_drop, List.length_map]
def B4 (v : Int) : List Value := (be4U v).map B
theorem B4_length (v : Int) : (B4 v).length = 4 := rfl
theorem dig_splice (L : List Value) (hL : L.length = 32) (h : Reg) : splice (splice (splice (splice (splice (splice (splice (splice L 0 (B4 h.a)) 4 (B4 h.b)) 8 (B4 h.c)) 12 (B4 h.d)) 16 (B4 h.e)) 20 (B4 h.f)) 24 (B4 h.g)) 28 (B4 h.h) = (digB h).map B := by
  have hv : (B4 h.a ++ B4 h.b ++ B4 h.c ++ B4 h.d ++ B4 h.e ++ B4 h.f ++ B4 h.g ++ B4 h.h).length = L.length := by rw [hL]; rfl
  rw [splice_app4 L _ _ 4 rfl (by rw [B4_length]; omega), splice_app4 L _ _ 8 rfl (by rw [B4_length]; omega), splice_app4 L _ _ 12 rfl (by rw [B4_length]; omega), splice_app4 L _ _ 16 rfl (by rw [B4_length]; omega), splice_app4 L _ _ 20 rfl (by rw [B4_length]; omega), splice_app4 L _ _ 24 rfl (by rw [B4_length]; omega), splice_app4 L _ _ 28 rfl (by rw [B4_length]; omega), splice_all L _ hv]
  rfl
theorem shaF_length (ks : List Int) (iv : Reg) (m : List UInt8) : (shaF ks iv m).length = 32 := rfl

set_option maxHeartbeats 4000000 in
set_option maxRecDepth 100000 in
theorem csPad_wp (u0 u1 u2 u4 u5 u6 u7 u8 u9 u10 u11 u12 u13 u14 u15 u16 u17 u18 u19 u20 u21 u22 u23 u24 u25 u26 u27 u28 u29 u30 u31 u32 u33 u34 u35 u36 u37 u38 u39 u40 u41 u42 u43 u44 u45 u46 u47 u48 u49 u50 u51 u52 u53 u54 u55 u56 u57 u58 u59 u60 u61 u62 u63 u64 u65 u66 u67 u68 u69 u70 u71 u72 u73 u74 u75 u76 u77 u78 u79 u80 u81 u82 u83 u84 u85 u86 u87 u88 u89 u90 u91 u92 u93 u94 u95 u96 u97 u98 u99 u100 u101 u102 u103 : Value) (L : Nat) (w : World) (Q : Exit → Act → World → Prop) (hL : L ≤ 1000000)
    (hQ : ∀ (x13 x14 x15 x16 x17 x18 x19 x20 x21 : Value), Q .normal ⟨#[u0, u1, u2, .int .u64 (L : Int), u4, .int .u64 (padQ L : Int), u6, u7, u8, u9, u10, u11, u12, x13, x14, x15, x16, x17, x18, x19, x20, x21, u22, u23, u24, u25, u26, u27, u28, u29, u30, u31, u32, u33, u34, u35, u36, u37, u38, u39, u40, u41, u42, u43, u44, u45, u46, u47, u48, u49, u50, u51, u52, u53, u54, u55, u56, u57, u58, u59, u60, u61, u62, u63, u64, u65, u66, u67, u68, u69, u70, u71, u72, u73, u74, u75, u76, u77, u78, u79, u80, u81, u82, u83, u84, u85, u86, u87, u88, u89, u90, u91, u92, u93, u94, u95, u96, u97, u98, u99, u100, u101, u102, u103], []⟩ w) :
    csE5.wp Try.prog Q ⟨#[u0, u1, u2, .int .u64 (L : Int), u4, u5, u6, u7, u8, u9, u10, u11, u12, u13, u14, u15, u16, u17, u18, u19, u20, u21, u22, u23, u24, u25, u26, u27, u28, u29, u30, u31, u32, u33, u34, u35, u36, u37, u38, u39, u40, u41, u42, u43, u44, u45, u46, u47, u48, u49, u50, u51, u52, u53, u54, u55, u56, u57, u58, u59, u60, u61, u62, u63, u64, u65, u66, u67, u68, u69, u70, u71, u72, u73, u74, u75, u76, u77, u78, u79, u80, u81, u82, u83, u84, u85, u86, u87, u88, u89, u90, u91, u92, u93, u94, u95, u96, u97, u98, u99, u100, u101, u102, u103], []⟩ w := by
  have HQ := Lib.hid hQ
  obtain ⟨r, hr⟩ : ∃ r, L % 64 = r := ⟨_, rfl⟩
  have er1 : (L : Int).tmod 64 = (r : Int) := by rw [Int.tmod_eq_emod_of_nonneg (by omega)]; omega
  have er2 : (L : Int) % 64 = (r : Int) := by omega
  have wr : IntKind.u64.wrap (r : Int) = (r : Int) := by rw [IntKind.wrap_u64]; omega
  rcases Nat.lt_or_ge r 56 with hlt | hge
  · have hq : padQ L = 56 - r := by unfold padQ; rw [if_pos (by omega), hr]
    rw [hq] at HQ
    have e1 : IntKind.u64.wrap (56 - (r : Int)) = ((56 - r : Nat) : Int) := by rw [IntKind.wrap_u64]; omega
    have h1 : (r : Int) < 56 := by omega
    generalize 56 - r = q at *
    clear hQ hq hr hL
    conv => arg 2; whnf
    go_wp2_with fail
    exact HQ.out _ _ _ _ _ _ _ _ _
  · have hq : padQ L = 120 - r := by unfold padQ; rw [if_neg (by omega), hr]
    rw [hq] at HQ
    have e1 : IntKind.u64.wrap (120 - (r : Int)) = ((120 - r : Nat) : Int) := by rw [IntKind.wrap_u64]; omega
    have h1 : ¬ (r : Int) < 56 := by omega
    generalize 120 - r = q at *
    clear hQ hq hr hL
    conv => arg 2; whnf
    go_wp2_with fail
    exact HQ.out _ _ _ _ _ _ _ _ _

set_option maxHeartbeats 4000000 in
set_option maxRecDepth 100000 in
theorem csTail_wp (u1 u3 u4 u5 u6 u8 u9 u10 u11 u12 u13 u14 u15 u16 u17 u18 u19 u20 u21 u22 u23 u24 u25 u26 u27 u28 u29 u30 u31 u32 u33 u34 u35 u36 u37 u38 u39 u40 u41 u42 u43 u44 u45 u46 u47 u48 u49 u50 u51 u52 u53 u54 u55 u56 u57 u58 u59 u60 u61 u62 u63 u64 u65 u66 u67 u68 u69 u70 u71 u72 u73 u74 u75 u76 u77 u78 u79 u80 u81 u82 u83 u84 u85 u86 u87 u88 u89 u90 u91 u92 u93 u94 u95 u96 u97 u98 u99 u100 u101 u102 u103 : Value) (g b0 b2 : Nat) (h : Reg) (x : List UInt8) (nx len : Int) (L0 : List Value) (c0 : Array Value) (w0 : World) (R : Ending → World → Prop) (hd0 : DgAt w0 g h (DgR x nx len false)) (hx : x.length = 64) (hb0 : Blk w0 b2 72 L0.toArray) (hl0 : L0.length = 32) (hr0 : Blk w0 b0 72 c0) (hc0 : c0.size = 32) (hgb2 : ¬ g = b2) (hb02 : ¬ b0 = b2)
    (hQ : ∀ W, Kept (Two b0 b2) w0 W → R (.returned (.agg ((digB h).map B).toArray)) W) :
    csT.wp Try.prog (bodyPost Try.prog Try.f35 R) ⟨#[.pointer (some ⟨g, 0, none⟩), u1, .pointer (some ⟨b0, 0, none⟩), u3, u4, u5, u6, .pointer (some ⟨b2, 0, none⟩), u8, u9, u10, u11, u12, u13, u14, u15, u16, u17, u18, u19, u20, u21, u22, u23, u24, u25, u26, u27, u28, u29, u30, u31, u32, u33, u34, u35, u36, u37, u38, u39, u40, u41, u42, u43, u44, u45, u46, u47, u48, u49, u50, u51, u52, u53, u54, u55, u56, u57, u58, u59, u60, u61, u62, u63, u64, u65, u66, u67, u68, u69, u70, u71, u72, u73, u74, u75, u76, u77, u78, u79, u80, u81, u82, u83, u84, u85, u86, u87, u88, u89, u90, u91, u92, u93, u94, u95, u96, u97, u98, u99, u100, u101, u102, u103], []⟩ w0 := by
  have HQ := Lib.hid hQ
  clear hQ
  have k0 : Kept (OneBlk b2) w0 w0 := Kept.refl _ _
  rw [csT_eq]
  refine wp_seq ?_
  refine csPut0_wp _ _ _ _ _ _ _ _ _ _ _ _ _ _ _ _ _ _ _ _ _ _ _ _ _ _ _ _ _ _ _ _ _ _ _ _ _ _ _ _ _ _ _ _ _ _ _ _ _ _ _ _ _ _ _ _ _ _ _ _ _ _ _ _ _ _ _ _ _ _ _ _ _ _ _ _ _ _ _ _ _ _ _ _ _ _ _ _ _ _ _ _ _ _ _ _ _ _ _ _ _ _ g b2 h _ L0 w0 _ _ hd0 hb0 hl0  ?_
  intro w1 x42 x43 x44 x45 x46 x47 x48 hb1 kk0
  have hd1 := hd0.kept kk0 hgb2
  have hr1 := hr0.kept kk0 hb02
  have k1 : Kept (OneBlk b2) w0 w1 := k0.trans kk0
  obtain ⟨L1, hL1⟩ : ∃ L', splice L0 0 ((be4U h.a).map B) = L' := ⟨_, rfl⟩
  rw [hL1] at hb1
  have hl1 : L1.length = 32 := by rw [← hL1, splice_len _ _ _ (by rw [hl0]; show 0 + 4 ≤ 32; omega), hl0]
  clear hd0 hb0 hr0 k0 kk0
  refine wp_seq ?_
  refine csPut1_wp _ _ _ _ _ _ _ _ _ _ _ _ _ _ _ _ _ _ _ _ _ _ _ _ _ _ _ _ _ _ _ _ _ _ _ _ _ _ _ _ _ _ _ _ _ _ _ _ _ _ _ _ _ _ _ _ _ _ _ _ _ _ _ _ _ _ _ _ _ _ _ _ _ _ _ _ _ _ _ _ _ _ _ _ _ _ _ _ _ _ _ _ _ _ _ _ _ _ _ _ _ _ g b2 h _ L1 w1 _ _ hd1 hb1 hl1  ?_
  intro w2 x49 x50 x51 x52 x53 x54 x55 hb2 kk1
  have hd2 := hd1.kept kk1 hgb2
  have hr2 := hr1.kept kk1 hb02
  have k2 : Kept (OneBlk b2) w0 w2 := k1.trans kk1
  obtain ⟨L2, hL2⟩ : ∃ L', splice L1 4 ((be4U h.b).map B) = L' := ⟨_, rfl⟩
  rw [hL2] at hb2
  have hl2 : L2.length = 32 := by rw [← hL2, splice_len _ _ _ (by rw [hl1]; show 4 + 4 ≤ 32; omega), hl1]
  clear hd1 hb1 hr1 k1 kk1
  refine wp_seq ?_
  refine csPut2_wp _ _ _ _ _ _ _ _ _ _ _ _ _ _ _ _ _ _ _ _ _ _ _ _ _ _ _ _ _ _ _ _ _ _ _ _ _ _ _ _ _ _ _ _ _ _ _ _ _ _ _ _ _ _ _ _ _ _ _ _ _ _ _ _ _ _ _ _ _ _ _ _ _ _ _ _ _ _ _ _ _ _ _ _ _ _ _ _ _ _ _ _ _ _ _ _ _ _ _ _ _ _ g b2 h _ L2 w2 _ _ hd2 hb2 hl2  ?_
  intro w3 x56 x57 x58 x59 x60 x61 x62 hb3 kk2
  have hd3 := hd2.kept kk2 hgb2
  have hr3 := hr2.kept kk2 hb02
  have k3 : Kept (OneBlk b2) w0 w3 := k2.trans kk2
  obtain ⟨L3, hL3⟩ : ∃ L', splice L2 8 ((be4U h.c).map B) = L' := ⟨_, rfl⟩
  rw [hL3] at hb3
  have hl3 : L3.length = 32 := by rw [← hL3, splice_len _ _ _ (by rw [hl2]; show 8 + 4 ≤ 32; omega), hl2]
  clear hd2 hb2 hr2 k2 kk2
  refine wp_seq ?_
  refine csPut3_wp _ _ _ _ _ _ _ _ _ _ _ _ _ _ _ _ _ _ _ _ _ _ _ _ _ _ _ _ _ _ _ _ _ _ _ _ _ _ _ _ _ _ _ _ _ _ _ _ _ _ _ _ _ _ _ _ _ _ _ _ _ _ _ _ _ _ _ _ _ _ _ _ _ _ _ _ _ _ _ _ _ _ _ _ _ _ _ _ _ _ _ _ _ _ _ _ _ _ _ _ _ _ g b2 h _ L3 w3 _ _ hd3 hb3 hl3  ?_
  intro w4 x63 x64 x65 x66 x67 x68 x69 hb4 kk3
  have hd4 := hd3.kept kk3 hgb2
  have hr4 := hr3.kept kk3 hb02
  have k4 : Kept (OneBlk b2) w0 w4 := k3.trans kk3
  obtain ⟨L4, hL4⟩ : ∃ L', splice L3 12 ((be4U h.d).map B) = L' := ⟨_, rfl⟩
  rw [hL4] at hb4
  have hl4 : L4.length = 32 := by rw [← hL4, splice_len _ _ _ (by rw [hl3]; show 12 + 4 ≤ 32; omega), hl3]
  clear hd3 hb3 hr3 k3 kk3
  refine wp_seq ?_
  refine csPut4_wp _ _ _ _ _ _ _ _ _ _ _ _ _ _ _ _ _ _ _ _ _ _ _ _ _ _ _ _ _ _ _ _ _ _ _ _ _ _ _ _ _ _ _ _ _ _ _ _ _ _ _ _ _ _ _ _ _ _ _ _ _ _ _ _ _ _ _ _ _ _ _ _ _ _ _ _ _ _ _ _ _ _ _ _ _ _ _ _ _ _ _ _ _ _ _ _ _ _ _ _ _ _ g b2 h _ L4 w4 _ _ hd4 hb4 hl4  ?_
  intro w5 x70 x71 x72 x73 x74 x75 x76 hb5 kk4
  have hd5 := hd4.kept kk4 hgb2
  have hr5 := hr4.kept kk4 hb02
  have k5 : Kept (OneBlk b2) w0 w5 := k4.trans kk4
  obtain ⟨L5, hL5⟩ : ∃ L', splice L4 16 ((be4U h.e).map B) = L' := ⟨_, rfl⟩
  rw [hL5] at hb5
  have hl5 : L5.length = 32 := by rw [← hL5, splice_len _ _ _ (by rw [hl4]; show 16 + 4 ≤ 32; omega), hl4]
  clear hd4 hb4 hr4 k4 kk4
  refine wp_seq ?_
  refine csPut5_wp _ _ _ _ _ _ _ _ _ _ _ _ _ _ _ _ _ _ _ _ _ _ _ _ _ _ _ _ _ _ _ _ _ _ _ _ _ _ _ _ _ _ _ _ _ _ _ _ _ _ _ _ _ _ _ _ _ _ _ _ _ _ _ _ _ _ _ _ _ _ _ _ _ _ _ _ _ _ _ _ _ _ _ _ _ _ _ _ _ _ _ _ _ _ _ _ _ _ _ _ _ _ g b2 h _ L5 w5 _ _ hd5 hb5 hl5  ?_
  intro w6 x77 x78 x79 x80 x81 x82 x83 hb6 kk5
  have hd6 := hd5.kept kk5 hgb2
  have hr6 := hr5.kept kk5 hb02
  have k6 : Kept (OneBlk b2) w0 w6 := k5.trans kk5
  obtain ⟨L6, hL6⟩ : ∃ L', splice L5 20 ((be4U h.f).map B) = L' := ⟨_, rfl⟩
  rw [hL6] at hb6
  have hl6 : L6.length = 32 := by rw [← hL6, splice_len _ _ _ (by rw [hl5]; show 20 + 4 ≤ 32; omega), hl5]
  clear hd5 hb5 hr5 k5 kk5
  refine wp_seq ?_
  refine csPut6_wp _ _ _ _ _ _ _ _ _ _ _ _ _ _ _ _ _ _ _ _ _ _ _ _ _ _ _ _ _ _ _ _ _ _ _ _ _ _ _ _ _ _ _ _ _ _ _ _ _ _ _ _ _ _ _ _ _ _ _ _ _ _ _ _ _ _ _ _ _ _ _ _ _ _ _ _ _ _ _ _ _ _ _ _ _ _ _ _ _ _ _ _ _ _ _ _ _ _ _ _ _ _ g b2 h _ L6 w6 _ _ hd6 hb6 hl6  ?_
  intro w7 x84 x85 x86 x87 x88 x89 x90 hb7 kk6
  have hd7 := hd6.kept kk6 hgb2
  have hr7 := hr6.kept kk6 hb02
  have k7 : Kept (OneBlk b2) w0 w7 := k6.trans kk6
  obtain ⟨L7, hL7⟩ : ∃ L', splice L6 24 ((be4U h.g).map B) = L' := ⟨_, rfl⟩
  rw [hL7] at hb7
  have hl7 : L7.length = 32 := by rw [← hL7, splice_len _ _ _ (by rw [hl6]; show 24 + 4 ≤ 32; omega), hl6]
  clear hd6 hb6 hr6 k6 kk6
  have c74 := hd7.isC hx
  refine wp_seq ?_
  refine csPut7_wp _ _ _ _ _ _ _ _ _ _ _ _ _ _ _ _ _ _ _ _ _ _ _ _ _ _ _ _ _ _ _ _ _ _ _ _ _ _ _ _ _ _ _ _ _ _ _ _ _ _ _ _ _ _ _ _ _ _ _ _ _ _ _ _ _ _ _ _ _ _ _ _ _ _ _ _ _ _ _ _ _ _ _ _ _ _ _ _ _ _ _ _ _ _ _ _ _ _ _ _ _ _ g b2 h _ L7 w7 _ _ hd7 hb7 hl7 c74 ?_
  intro w8 x91 x92 x93 x94 x95 x96 x97 x98 x99 x100 x101 x102 hb8 kk7
  have hd8 := hd7.kept kk7 hgb2
  have hr8 := hr7.kept kk7 hb02
  have k8 : Kept (OneBlk b2) w0 w8 := k7.trans kk7
  obtain ⟨L8, hL8⟩ : ∃ L', splice L7 28 ((be4U h.h).map B) = L' := ⟨_, rfl⟩
  rw [hL8] at hb8
  have hl8 : L8.length = 32 := by rw [← hL8, splice_len _ _ _ (by rw [hl7]; show 28 + 4 ≤ 32; omega), hl7]
  clear hd7 hb7 hr7 k7 kk7
  have hdig : L8 = (digB h).map B := by
    rw [← dig_splice L0 hl0 h, ← hL8, ← hL7, ← hL6, ← hL5, ← hL4, ← hL3, ← hL2, ← hL1]
    rfl
  rw [hdig] at hb8
  have hsz : ((digB h).map B).toArray.size = 32 := rfl
  have hone : ((digB h).map B).toArray.all (·.oneCell') = true := Array.all_eq_true_iff_forall_mem.2 (fun v hv => oneCell_bytes _ v (by simpa using hv))
  have HB := Lib.hid hb8
  have HR := Lib.hid hr8
  have hi32 : (Try.prog.info? 72).map (·.size) = some 32 := by kernel_rfl
  have HK := Lib.hid k8
  clear hL1 hL2 hL3 hL4 hL5 hL6 hL7 hL8 hdig hl8 hd8 hb8 hr8 k8
  generalize (digB h).map B = D at *
  refine wp_seq ?_
  conv => arg 2; whnf
  go_wp2_with (first | (refine wpList_load_row rfl 72 _ rfl b2 rfl 72 D.toArray (0, 0) _ HB.out Try.underlying72 rfl (by rw [hsz]; exact hi32) ?_) | (refine wpList_store_row rfl 72 _ _ rfl b0 D.toArray rfl rfl 72 c0 HR.out (by rw [hsz]; exact hi32) (by rw [hsz]; exact hc0) hone ?_))
  refine bodyPost_ret (results_cell_row rfl _ _ b0 72 D.toArray (0, 0) _ rfl (setRow_heap w8 b0 c0 D.toArray 72 (0, 0) HR.out) Try.underlying72 rfl (by rw [hsz]; exact hi32)) rfl ?_
  exact HQ.out _ ((HK.out.mono (fun _ _ e => .inr e)).trans ((setRow_kept w8 b0 D.toArray).mono (fun _ _ e => .inl e)))

set_option maxHeartbeats 4000000 in
set_option maxRecDepth 100000 in
theorem checkSum_any (g : Nat) (ks : List Int) (iv : Reg) (m : List UInt8) (w : World) (ho : ShaAt w g ks iv m) (hk : KAt w ks) (hg0 : g ≠ 0) (hml : m.length ≤ 1000000) :
    Calls Try.prog 35 #[.pointer (some ⟨g, 0, none⟩)] w fun e w' => e = .returned (.agg ((shaF ks iv m).map B).toArray) ∧ w'.cell? ⟨g, 74, none⟩ = some (.bool false) ∧ Kept (OneBlk g) w w' := by
  obtain ⟨b0, hb0⟩ : ∃ b0, w.heap.size = b0 := ⟨_, rfl⟩
  have hgb : g < b0 := by rw [← hb0]; exact Blk.lt ho.choose_spec.2.2
  have h0b : 0 < b0 := by rw [← hb0]; exact hk.1
  have hr0 := Blk.new w 72 #[.int .u8 0, .int .u8 0, .int .u8 0, .int .u8 0, .int .u8 0, .int .u8 0, .int .u8 0, .int .u8 0, .int .u8 0, .int .u8 0, .int .u8 0, .int .u8 0, .int .u8 0, .int .u8 0, .int .u8 0, .int .u8 0, .int .u8 0, .int .u8 0, .int .u8 0, .int .u8 0, .int .u8 0, .int .u8 0, .int .u8 0, .int .u8 0, .int .u8 0, .int .u8 0, .int .u8 0, .int .u8 0, .int .u8 0, .int .u8 0, .int .u8 0, .int .u8 0]
  have k1 : Kept NoBlk w (w.alloc (.cells #[.int .u8 0, .int .u8 0, .int .u8 0, .int .u8 0, .int .u8 0, .int .u8 0, .int .u8 0, .int .u8 0, .int .u8 0, .int .u8 0, .int .u8 0, .int .u8 0, .int .u8 0, .int .u8 0, .int .u8 0, .int .u8 0, .int .u8 0, .int .u8 0, .int .u8 0, .int .u8 0, .int .u8 0, .int .u8 0, .int .u8 0, .int .u8 0, .int .u8 0, .int .u8 0, .int .u8 0, .int .u8 0, .int .u8 0, .int .u8 0, .int .u8 0, .int .u8 0] 72)) := (Kept.refl _ w).alloc _
  have hs1 : (w.alloc (.cells #[.int .u8 0, .int .u8 0, .int .u8 0, .int .u8 0, .int .u8 0, .int .u8 0, .int .u8 0, .int .u8 0, .int .u8 0, .int .u8 0, .int .u8 0, .int .u8 0, .int .u8 0, .int .u8 0, .int .u8 0, .int .u8 0, .int .u8 0, .int .u8 0, .int .u8 0, .int .u8 0, .int .u8 0, .int .u8 0, .int .u8 0, .int .u8 0, .int .u8 0, .int .u8 0, .int .u8 0, .int .u8 0, .int .u8 0, .int .u8 0, .int .u8 0, .int .u8 0] 72)).heap.size = b0 + 1 := by rw [← hb0]; simp
  obtain ⟨w1, hw1⟩ : ∃ w1, w.alloc (.cells #[.int .u8 0, .int .u8 0, .int .u8 0, .int .u8 0, .int .u8 0, .int .u8 0, .int .u8 0, .int .u8 0, .int .u8 0, .int .u8 0, .int .u8 0, .int .u8 0, .int .u8 0, .int .u8 0, .int .u8 0, .int .u8 0, .int .u8 0, .int .u8 0, .int .u8 0, .int .u8 0, .int .u8 0, .int .u8 0, .int .u8 0, .int .u8 0, .int .u8 0, .int .u8 0, .int .u8 0, .int .u8 0, .int .u8 0, .int .u8 0, .int .u8 0, .int .u8 0] 72) = w1 := ⟨_, rfl⟩
  rw [hw1] at hr0 k1 hs1
  rw [hb0] at hr0
  have hp1 := Blk.new w1 75 #[.int .u8 0, .int .u8 0, .int .u8 0, .int .u8 0, .int .u8 0, .int .u8 0, .int .u8 0, .int .u8 0, .int .u8 0, .int .u8 0, .int .u8 0, .int .u8 0, .int .u8 0, .int .u8 0, .int .u8 0, .int .u8 0, .int .u8 0, .int .u8 0, .int .u8 0, .int .u8 0, .int .u8 0, .int .u8 0, .int .u8 0, .int .u8 0, .int .u8 0, .int .u8 0, .int .u8 0, .int .u8 0, .int .u8 0, .int .u8 0, .int .u8 0, .int .u8 0, .int .u8 0, .int .u8 0, .int .u8 0, .int .u8 0, .int .u8 0, .int .u8 0, .int .u8 0, .int .u8 0, .int .u8 0, .int .u8 0, .int .u8 0, .int .u8 0, .int .u8 0, .int .u8 0, .int .u8 0, .int .u8 0, .int .u8 0, .int .u8 0, .int .u8 0, .int .u8 0, .int .u8 0, .int .u8 0, .int .u8 0, .int .u8 0, .int .u8 0, .int .u8 0, .int .u8 0, .int .u8 0, .int .u8 0, .int .u8 0, .int .u8 0, .int .u8 0, .int .u8 0, .int .u8 0, .int .u8 0, .int .u8 0, .int .u8 0, .int .u8 0, .int .u8 0, .int .u8 0]
  have k2 : Kept NoBlk w1 (w1.alloc (.cells #[.int .u8 0, .int .u8 0, .int .u8 0, .int .u8 0, .int .u8 0, .int .u8 0, .int .u8 0, .int .u8 0, .int .u8 0, .int .u8 0, .int .u8 0, .int .u8 0, .int .u8 0, .int .u8 0, .int .u8 0, .int .u8 0, .int .u8 0, .int .u8 0, .int .u8 0, .int .u8 0, .int .u8 0, .int .u8 0, .int .u8 0, .int .u8 0, .int .u8 0, .int .u8 0, .int .u8 0, .int .u8 0, .int .u8 0, .int .u8 0, .int .u8 0, .int .u8 0, .int .u8 0, .int .u8 0, .int .u8 0, .int .u8 0, .int .u8 0, .int .u8 0, .int .u8 0, .int .u8 0, .int .u8 0, .int .u8 0, .int .u8 0, .int .u8 0, .int .u8 0, .int .u8 0, .int .u8 0, .int .u8 0, .int .u8 0, .int .u8 0, .int .u8 0, .int .u8 0, .int .u8 0, .int .u8 0, .int .u8 0, .int .u8 0, .int .u8 0, .int .u8 0, .int .u8 0, .int .u8 0, .int .u8 0, .int .u8 0, .int .u8 0, .int .u8 0, .int .u8 0, .int .u8 0, .int .u8 0, .int .u8 0, .int .u8 0, .int .u8 0, .int .u8 0, .int .u8 0] 75)) := (Kept.refl _ w1).alloc _
  have hs2 : (w1.alloc (.cells #[.int .u8 0, .int .u8 0, .int .u8 0, .int .u8 0, .int .u8 0, .int .u8 0, .int .u8 0, .int .u8 0, .int .u8 0, .int .u8 0, .int .u8 0, .int .u8 0, .int .u8 0, .int .u8 0, .int .u8 0, .int .u8 0, .int .u8 0, .int .u8 0, .int .u8 0, .int .u8 0, .int .u8 0, .int .u8 0, .int .u8 0, .int .u8 0, .int .u8 0, .int .u8 0, .int .u8 0, .int .u8 0, .int .u8 0, .int .u8 0, .int .u8 0, .int .u8 0, .int .u8 0, .int .u8 0, .int .u8 0, .int .u8 0, .int .u8 0, .int .u8 0, .int .u8 0, .int .u8 0, .int .u8 0, .int .u8 0, .int .u8 0, .int .u8 0, .int .u8 0, .int .u8 0, .int .u8 0, .int .u8 0, .int .u8 0, .int .u8 0, .int .u8 0, .int .u8 0, .int .u8 0, .int .u8 0, .int .u8 0, .int .u8 0, .int .u8 0, .int .u8 0, .int .u8 0, .int .u8 0, .int .u8 0, .int .u8 0, .int .u8 0, .int .u8 0, .int .u8 0, .int .u8 0, .int .u8 0, .int .u8 0, .int .u8 0, .int .u8 0, .int .u8 0, .int .u8 0] 75)).heap.size = b0 + 2 := by simp [hs1]
  obtain ⟨w2, hw2⟩ : ∃ w2, w1.alloc (.cells #[.int .u8 0, .int .u8 0, .int .u8 0, .int .u8 0, .int .u8 0, .int .u8 0, .int .u8 0, .int .u8 0, .int .u8 0, .int .u8 0, .int .u8 0, .int .u8 0, .int .u8 0, .int .u8 0, .int .u8 0, .int .u8 0, .int .u8 0, .int .u8 0, .int .u8 0, .int .u8 0, .int .u8 0, .int .u8 0, .int .u8 0, .int .u8 0, .int .u8 0, .int .u8 0, .int .u8 0, .int .u8 0, .int .u8 0, .int .u8 0, .int .u8 0, .int .u8 0, .int .u8 0, .int .u8 0, .int .u8 0, .int .u8 0, .int .u8 0, .int .u8 0, .int .u8 0, .int .u8 0, .int .u8 0, .int .u8 0, .int .u8 0, .int .u8 0, .int .u8 0, .int .u8 0, .int .u8 0, .int .u8 0, .int .u8 0, .int .u8 0, .int .u8 0, .int .u8 0, .int .u8 0, .int .u8 0, .int .u8 0, .int .u8 0, .int .u8 0, .int .u8 0, .int .u8 0, .int .u8 0, .int .u8 0, .int .u8 0, .int .u8 0, .int .u8 0, .int .u8 0, .int .u8 0, .int .u8 0, .int .u8 0, .int .u8 0, .int .u8 0, .int .u8 0, .int .u8 0] 75) = w2 := ⟨_, rfl⟩
  rw [hw2] at hp1 k2 hs2
  rw [hs1] at hp1
  obtain ⟨L, hL⟩ : ∃ L, m.length = L := ⟨_, rfl⟩
  have ho1 := ho.kept k1 (fun e => e)
  obtain ⟨x, hx, htk, hd1⟩ := ho1
  have c73 := hd1.lenC hx
  rw [hL] at c73
  have p0 : w2.cell? ⟨b0 + 1, 0, none⟩ = some (.int .u8 0) := Blk.cellIs hp1 rfl
  have pf0 := Blk.frozen hp1 0
  obtain ⟨w3, hw3⟩ : ∃ w3, w2.setCell ⟨b0 + 1, 0, none⟩ (.int .u8 128) = w3 := ⟨_, rfl⟩
  have hp3 : Blk w3 (b0 + 1) 75 ((128 :: List.replicate 71 (0 : UInt8)).map B).toArray := by
    rw [← hw3]
    exact hp1.set_ 0 (.int .u8 128)
  have k3 : Kept NoBlk w w3 := by
    rw [← hw3]
    exact (k1.trans k2).setNew (by omega) 0 _
  have hr3 : Blk w3 b0 72 #[.int .u8 0, .int .u8 0, .int .u8 0, .int .u8 0, .int .u8 0, .int .u8 0, .int .u8 0, .int .u8 0, .int .u8 0, .int .u8 0, .int .u8 0, .int .u8 0, .int .u8 0, .int .u8 0, .int .u8 0, .int .u8 0, .int .u8 0, .int .u8 0, .int .u8 0, .int .u8 0, .int .u8 0, .int .u8 0, .int .u8 0, .int .u8 0, .int .u8 0, .int .u8 0, .int .u8 0, .int .u8 0, .int .u8 0, .int .u8 0, .int .u8 0, .int .u8 0] := by
    rw [← hw3]
    exact (hr0.kept k2 (fun e => e)).far (p := ⟨b0 + 1, 0, none⟩) (by show b0 ≠ b0 + 1; omega) _
  have hs3 : w3.heap.size = b0 + 2 := by rw [← hw3, ← hs2]; simp
  obtain ⟨q, hq⟩ : ∃ q, padQ L = q := ⟨_, rfl⟩
  have hqs := padQ_le L
  have hpl := padB_length L
  rw [hq] at hqs hpl
  obtain ⟨r, hr⟩ : ∃ r, L % 64 = r := ⟨_, rfl⟩
  have er1 : (L : Int).tmod 64 = (r : Int) := by rw [Int.tmod_eq_emod_of_nonneg (by omega)]; omega
  have er2 : (L : Int) % 64 = (r : Int) := by omega
  have wL : IntKind.u64.wrap (L : Int) = (L : Int) := by rw [IntKind.wrap_u64]; omega
  have wr : IntKind.u64.wrap (r : Int) = (r : Int) := by rw [IntKind.wrap_u64]; omega
  have HW := Lib.hid (And.intro hp3 (And.intro k3 (And.intro hr3 (And.intro hs3 (And.intro ho (And.intro hk (And.intro hqs (And.intro hpl (And.intro hgb h0b)))))))))
  have HL := Lib.hid hL
  have HQQ := Lib.hid (And.intro hq hr)
  have hz : ∀ w, (zeroValue 75).run Try.prog w = .ok (.agg #[.int .u8 0, .int .u8 0, .int .u8 0, .int .u8 0, .int .u8 0, .int .u8 0, .int .u8 0, .int .u8 0, .int .u8 0, .int .u8 0, .int .u8 0, .int .u8 0, .int .u8 0, .int .u8 0, .int .u8 0, .int .u8 0, .int .u8 0, .int .u8 0, .int .u8 0, .int .u8 0, .int .u8 0, .int .u8 0, .int .u8 0, .int .u8 0, .int .u8 0, .int .u8 0, .int .u8 0, .int .u8 0, .int .u8 0, .int .u8 0, .int .u8 0, .int .u8 0, .int .u8 0, .int .u8 0, .int .u8 0, .int .u8 0, .int .u8 0, .int .u8 0, .int .u8 0, .int .u8 0, .int .u8 0, .int .u8 0, .int .u8 0, .int .u8 0, .int .u8 0, .int .u8 0, .int .u8 0, .int .u8 0, .int .u8 0, .int .u8 0, .int .u8 0, .int .u8 0, .int .u8 0, .int .u8 0, .int .u8 0, .int .u8 0, .int .u8 0, .int .u8 0, .int .u8 0, .int .u8 0, .int .u8 0, .int .u8 0, .int .u8 0, .int .u8 0, .int .u8 0, .int .u8 0, .int .u8 0, .int .u8 0, .int .u8 0, .int .u8 0, .int .u8 0, .int .u8 0]) w := fun _ => by kernel_rfl
  clear hr0 k1 hp1 k2 hs2 hd1 htk hp3 k3 hr3 hs3 ho hk hqs hpl hL hgb h0b hr
  refine calls_of_wp Try.func35 csBody_eq ?_
  simp only [Try.ntmps35, List.size_toArray, List.length_cons, List.length_nil, Nat.reduceAdd, Nat.reduceSub, Array.replicate_succ, Array.replicate_zero, List.push_toArray, List.append_toArray, List.nil_append, List.cons_append]
  refine wp_seq ?_
  conv => arg 2; whnf
  go_wp2_with fail
  conv => arg 2; whnf
  go_wp2_with fail
  conv => arg 2; whnf
  go_wp2_with fail
  conv => arg 2; whnf
  go_wp2_with fail
  conv => arg 2; whnf
  go_wp2_with fail
  clear hz hw1 hw2 hw3 hs1 p0 pf0 c73 hx er1 er2 wL wr
  refine csPad_wp _ _ _ _ _ _ _ _ _ _ _ _ _ _ _ _ _ _ _ _ _ _ _ _ _ _ _ _ _ _ _ _ _ _ _ _ _ _ _ _ _ _ _ _ _ _ _ _ _ _ _ _ _ _ _ _ _ _ _ _ _ _ _ _ _ _ _ _ _ _ _ _ _ _ _ _ _ _ _ _ _ _ _ _ _ _ _ _ _ _ _ _ _ _ _ _ _ _ _ _ _ _ _ L w3 _ (by have := HL.out; omega) ?_
  rw [HQQ.out.1]
  intro x13 x14 x15 x16 x17 x18 x19 x20 x21
  rename_i K hK
  refine hK _ _ ?_
  clear hK
  obtain ⟨hp3, k3, hr3, hs3, ho, hk, hqs, hpl, hgb, h0b⟩ := HW.out
  clear HW
  have e8 : IntKind.u64.wrap ((L : Int) * 8) = ((8 * L : Nat) : Int) := by rw [IntKind.wrap_u64]; have := HL.out; omega
  have e8b : IntKind.u64.wrap ((q : Int) + 8) = ((q + 8 : Nat) : Int) := by rw [IntKind.wrap_u64]; omega
  have e80 : IntKind.u64.wrap ((q : Int) + 0) = (q : Int) := by rw [IntKind.wrap_u64]; omega
  have eq0 : IntKind.u64.wrap (q : Int) = (q : Int) := by rw [IntKind.wrap_u64]; omega
  have h72 : (q : Int) + 8 ≤ 72 := by omega
  have h08 : (0 : Int) ≤ (q : Int) + 8 := by omega
  have ht8 : ((q : Int) + 8).toNat = q + 8 := by omega
  have hw8 : IntKind.i64.wrap ((q : Int) + 8) = (q : Int) + 8 := by rw [IntKind.wrap_i64]; omega
  have hq72 : (q : Int) ≤ 72 := by omega
  have hput := bePut64_any (b0 + 1) q 8 (72 - q) 75 _ ((8 * L : Nat) : Int) w3 hp3 (by omega) (by rw [List.length_map, List.length_cons, List.length_replicate]; omega)
  obtain ⟨L8, hL8⟩ : ∃ L8, 8 * L = L8 := ⟨_, rfl⟩
  rw [hL8] at e8 hput
  have HPUT := Lib.hid hput
  have HW := Lib.hid (And.intro k3 (And.intro hr3 (And.intro hs3 (And.intro ho (And.intro hk (And.intro hqs (And.intro hpl (And.intro hgb (And.intro h0b hL8)))))))))
  clear hput hp3 k3 hr3 hs3 ho hk hqs hpl hgb h0b hL8
  refine wp_seq ?_
  conv => arg 2; whnf
  go_wp2_with fail
  conv => arg 2; whnf
  go_wp2_with fail
  conv => arg 2; whnf
  go_wp2_with fail
  refine HPUT.out.mono ?_
  rintro e w4 ⟨rfl, hp4, k4⟩
  obtain ⟨k3, hr3, hs3, ho, hk, hqs, hpl, hgb, h0b, hL8⟩ := HW.out
  have hL := HL.out
  have hbytes : BytesAt w4 (some ⟨b0 + 1, 0, none⟩) (padB L) := by
    rw [splice_map] at hp4
    have h := At.take (Blk.at_ hp4 _ (fun j u hu => by rw [List.getElem?_toArray]; exact hu)) (q + 8)
    rw [← List.map_take] at h
    unfold padB
    rw [HQQ.out.1, hL8]
    exact h
  have ho4 : ShaAt w4 g ks iv m := (ho.kept k3 (fun e => e)).kept k4 (fun e => by have : g = b0 + 1 := e; omega)
  have hk4 : KAt w4 ks := (hk.kept k3 (fun e => e)).kept k4 (fun e => by have : 0 = b0 + 1 := e; omega)
  have hw := shaWrite_any g ks iv m (some ⟨b0 + 1, 0, none⟩) 72 (padB L) w4 ho4 hk4 hg0 hbytes (fun a e => by cases e; show b0 + 1 ≠ g; omega) (by omega) (by omega) hml
  rw [hpl] at hw
  have HWR := Lib.hid hw
  have k34 : Kept (OneBlk g) w w4 := (k3.fresh k4 (by omega)).mono (fun _ _ e => e.elim)
  have hr4 := hr3.kept k4 (fun e => by have : b0 = b0 + 1 := e; omega)
  have hs4 := k4.size
  have HV := Lib.hid (And.intro k34 (And.intro hr4 (And.intro hk4 (And.intro hs3 (And.intro hs4 (And.intro hqs (And.intro hpl (And.intro hgb (And.intro h0b hL)))))))))
  clear hp4 k4 k3 hr3 hs3 ho hk hqs hpl hgb h0b hL8 hL hbytes ho4 hk4 hw k34 hr4 hs4 HW HPUT e8 e8b e80 eq0 h72 h08 ht8 hw8 hq72
  go_wp2_with fail
  conv => arg 2; whnf
  go_wp2_with fail
  refine HWR.out.mono ?_
  rintro e w5 ⟨rfl, ho5, k5⟩
  obtain ⟨k34, hr4, hk4, hs3, hs4, hqs, hpl, hgb, h0b, hL⟩ := HV.out
  have hlm : (m ++ padB L).length % 64 = 0 := by rw [List.length_append, hpl, hL]; omega
  obtain ⟨x5, hx5, _, hd5⟩ := ho5
  rw [hlm] at hd5
  have hF : (shaF ks iv m) = digB (shaH (blkS ks) iv (m ++ padB L)) := by unfold shaF; rw [hL]
  generalize hHH : shaH (blkS ks) iv (m ++ padB L) = H at *
  generalize hLL : (((m ++ padB L).length : Nat) : Int) = len5 at *
  have c72 := hd5.nxC hx5
  obtain ⟨b2, hb2⟩ : ∃ b2, w5.heap.size = b2 := ⟨_, rfl⟩
  have hs5 := k5.size
  have hd6 := Blk.new w5 72 #[.int .u8 0, .int .u8 0, .int .u8 0, .int .u8 0, .int .u8 0, .int .u8 0, .int .u8 0, .int .u8 0, .int .u8 0, .int .u8 0, .int .u8 0, .int .u8 0, .int .u8 0, .int .u8 0, .int .u8 0, .int .u8 0, .int .u8 0, .int .u8 0, .int .u8 0, .int .u8 0, .int .u8 0, .int .u8 0, .int .u8 0, .int .u8 0, .int .u8 0, .int .u8 0, .int .u8 0, .int .u8 0, .int .u8 0, .int .u8 0, .int .u8 0, .int .u8 0]
  have k6 : Kept NoBlk w5 (w5.alloc (.cells #[.int .u8 0, .int .u8 0, .int .u8 0, .int .u8 0, .int .u8 0, .int .u8 0, .int .u8 0, .int .u8 0, .int .u8 0, .int .u8 0, .int .u8 0, .int .u8 0, .int .u8 0, .int .u8 0, .int .u8 0, .int .u8 0, .int .u8 0, .int .u8 0, .int .u8 0, .int .u8 0, .int .u8 0, .int .u8 0, .int .u8 0, .int .u8 0, .int .u8 0, .int .u8 0, .int .u8 0, .int .u8 0, .int .u8 0, .int .u8 0, .int .u8 0, .int .u8 0] 72)) := (Kept.refl _ w5).alloc _
  obtain ⟨w6, hw6⟩ : ∃ w6, w5.alloc (.cells #[.int .u8 0, .int .u8 0, .int .u8 0, .int .u8 0, .int .u8 0, .int .u8 0, .int .u8 0, .int .u8 0, .int .u8 0, .int .u8 0, .int .u8 0, .int .u8 0, .int .u8 0, .int .u8 0, .int .u8 0, .int .u8 0, .int .u8 0, .int .u8 0, .int .u8 0, .int .u8 0, .int .u8 0, .int .u8 0, .int .u8 0, .int .u8 0, .int .u8 0, .int .u8 0, .int .u8 0, .int .u8 0, .int .u8 0, .int .u8 0, .int .u8 0, .int .u8 0] 72) = w6 := ⟨_, rfl⟩
  rw [hw6] at hd6 k6
  rw [hb2] at hd6
  have hg6 : DgAt w6 g H (DgR x5 0 len5 false) := hd5.kept k6 (fun e => e)
  have hr6 := (hr4.kept k5 (fun e => by have : b0 = g := e; omega)).kept k6 (fun e => e)
  have kk6 : Kept (OneBlk g) w w6 := (k34.trans k5).none k6
  have HV2 := Lib.hid (And.intro hd6 (And.intro hg6 (And.intro hr6 (And.intro kk6 (And.intro hx5 (And.intro hF (And.intro hs3 (And.intro hs4 (And.intro hs5 hgb)))))))))
  clear hd6 hg6 hr6 kk6 hx5 hF hs3 hs4 hs5 hgb k34 hr4 hk4 hqs hpl h0b hL hlm hd5 k5 k6 HV HWR hHH hLL
  go_wp2_with fail
  conv => arg 2; whnf
  go_wp2_with fail
  conv => arg 2; whnf
  go_wp2_with fail
  obtain ⟨hd6, hg6, hr6, kk6, hx5, hF, hs3, hs4, hs5, hgb⟩ := HV2.out
  clear HV2
  refine csTail_wp _ _ _ _ _ _ _ _ _ _ _ _ _ _ _ _ _ _ _ _ _ _ _ _ _ _ _ _ _ _ _ _ _ _ _ _ _ _ _ _ _ _ _ _ _ _ _ _ _ _ _ _ _ _ _ _ _ _ _ _ _ _ _ _ _ _ _ _ _ _ _ _ _ _ _ _ _ _ _ _ _ _ _ _ _ _ _ _ _ _ _ _ _ _ _ _ _ _ _ _ _ g b0 b2 H x5 _ len5 _ _ w6 _ hg6 hx5 hd6 rfl hr6 rfl (by omega) (by omega) ?_
  intro W kW
  exact ⟨by rw [hF], (hg6.kept kW (fun e => by rcases e with e | e <;> omega)).isC hx5, kk6.step kW (fun i hi e => by rcases e with e | e <;> omega)⟩

end Go.Proofs.Ytgkfnmmajehobaa
