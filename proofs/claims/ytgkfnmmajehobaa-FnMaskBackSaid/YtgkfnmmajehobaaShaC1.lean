/-
  sha256.Digest.checkSum: the words written out (printed by gen_cs.py).
-/
import Derived.Test.YtgkfnmmajehobaaShaPut
import Derived.BigRegion
namespace Go.Proofs.Ytgkfnmmajehobaa
open Go.RowKit

noncomputable def csP0 : Code := (cl (cr (cr (cr (cr (cr (cr (cr (cr (cr (cr (cr (cr (Try.f35.body.getD .skip))))))))))))))
noncomputable def csP1 : Code := (cl (cr (cr (cr (cr (cr (cr (cr (cr (cr (cr (cr (cr (cr (Try.f35.body.getD .skip)))))))))))))))
noncomputable def csP2 : Code := (cl (cr (cr (cr (cr (cr (cr (cr (cr (cr (cr (cr (cr (cr (cr (Try.f35.body.getD .skip))))))))))))))))
noncomputable def csP3 : Code := (cl (cr (cr (cr (cr (cr (cr (cr (cr (cr (cr (cr (cr (cr (cr (cr (Try.f35.body.getD .skip)))))))))))))))))
noncomputable def csP4 : Code := (cl (cr (cr (cr (cr (cr (cr (cr (cr (cr (cr (cr (cr (cr (cr (cr (cr (Try.f35.body.getD .skip))))))))))))))))))
noncomputable def csP5 : Code := (cl (cr (cr (cr (cr (cr (cr (cr (cr (cr (cr (cr (cr (cr (cr (cr (cr (cr (Try.f35.body.getD .skip)))))))))))))))))))
noncomputable def csP6 : Code := (cl (cr (cr (cr (cr (cr (cr (cr (cr (cr (cr (cr (cr (cr (cr (cr (cr (cr (cr (Try.f35.body.getD .skip))))))))))))))))))))
noncomputable def csL7 : Code := (cl (cr (cr (cr (cr (cr (cr (cr (cr (cr (cr (cr (cr (cr (cr (cr (cr (cr (cr (cr (Try.f35.body.getD .skip)))))))))))))))))))))
set_option maxHeartbeats 4000000 in
set_option maxRecDepth 100000 in
theorem csPut0_wp (u1 u2 u3 u4 u5 u6 u8 u9 u10 u11 u12 u13 u14 u15 u16 u17 u18 u19 u20 u21 u22 u23 u24 u25 u26 u27 u28 u29 u30 u31 u32 u33 u34 u35 u36 u37 u38 u39 u40 u41 u42 u43 u44 u45 u46 u47 u48 u49 u50 u51 u52 u53 u54 u55 u56 u57 u58 u59 u60 u61 u62 u63 u64 u65 u66 u67 u68 u69 u70 u71 u72 u73 u74 u75 u76 u77 u78 u79 u80 u81 u82 u83 u84 u85 u86 u87 u88 u89 u90 u91 u92 u93 u94 u95 u96 u97 u98 u99 u100 u101 u102 u103 : Value) (g b : Nat) (h : Reg) (rest : List Value) (L : List Value) (w : World) (K : Act → World → Prop) (R : Ending → World → Prop) (hd : DgAt w g h rest) (hb : Blk w b 72 L.toArray) (hL : L.length = 32) 
    (hQ : ∀ (W : World) (x42 x43 x44 x45 x46 x47 x48 : Value), Blk W b 72 (splice L 0 ((be4U h.a).map B)).toArray → Kept (OneBlk b) w W → K ⟨#[.pointer (some ⟨g, 0, none⟩), u1, u2, u3, u4, u5, u6, .pointer (some ⟨b, 0, none⟩), u8, u9, u10, u11, u12, u13, u14, u15, u16, u17, u18, u19, u20, u21, u22, u23, u24, u25, u26, u27, u28, u29, u30, u31, u32, u33, u34, u35, u36, u37, u38, u39, u40, u41, x42, x43, x44, x45, x46, x47, x48, u49, u50, u51, u52, u53, u54, u55, u56, u57, u58, u59, u60, u61, u62, u63, u64, u65, u66, u67, u68, u69, u70, u71, u72, u73, u74, u75, u76, u77, u78, u79, u80, u81, u82, u83, u84, u85, u86, u87, u88, u89, u90, u91, u92, u93, u94, u95, u96, u97, u98, u99, u100, u101, u102, u103], []⟩ W) :
    csP0.wp Try.prog (Exit.then K (bodyPost Try.prog Try.f35 R)) ⟨#[.pointer (some ⟨g, 0, none⟩), u1, u2, u3, u4, u5, u6, .pointer (some ⟨b, 0, none⟩), u8, u9, u10, u11, u12, u13, u14, u15, u16, u17, u18, u19, u20, u21, u22, u23, u24, u25, u26, u27, u28, u29, u30, u31, u32, u33, u34, u35, u36, u37, u38, u39, u40, u41, u42, u43, u44, u45, u46, u47, u48, u49, u50, u51, u52, u53, u54, u55, u56, u57, u58, u59, u60, u61, u62, u63, u64, u65, u66, u67, u68, u69, u70, u71, u72, u73, u74, u75, u76, u77, u78, u79, u80, u81, u82, u83, u84, u85, u86, u87, u88, u89, u90, u91, u92, u93, u94, u95, u96, u97, u98, u99, u100, u101, u102, u103], []⟩ w := by
  have HQ := Lib.hid hQ
  have c0 : w.cell? ⟨g, 0, none⟩ = some (.int .u32 h.a) := Blk.cellIs hd rfl
  have HP := Lib.hid (bePut32_any b 0 32 32 72 L h.a w.drew hb (by omega) (by omega))
  clear hQ hd hb
  conv => arg 2; whnf
  go_region_with (go_at_call 38; refine HP.out.mono ?_; rintro e w2 ⟨rfl, hb2, k2⟩)
  all_goals exact HQ.out _ _ _ _ _ _ _ _ hb2 (((Kept.refl _ w).drew).trans k2)

set_option maxHeartbeats 4000000 in
set_option maxRecDepth 100000 in
theorem csPut1_wp (u1 u2 u3 u4 u5 u6 u8 u9 u10 u11 u12 u13 u14 u15 u16 u17 u18 u19 u20 u21 u22 u23 u24 u25 u26 u27 u28 u29 u30 u31 u32 u33 u34 u35 u36 u37 u38 u39 u40 u41 u42 u43 u44 u45 u46 u47 u48 u49 u50 u51 u52 u53 u54 u55 u56 u57 u58 u59 u60 u61 u62 u63 u64 u65 u66 u67 u68 u69 u70 u71 u72 u73 u74 u75 u76 u77 u78 u79 u80 u81 u82 u83 u84 u85 u86 u87 u88 u89 u90 u91 u92 u93 u94 u95 u96 u97 u98 u99 u100 u101 u102 u103 : Value) (g b : Nat) (h : Reg) (rest : List Value) (L : List Value) (w : World) (K : Act → World → Prop) (R : Ending → World → Prop) (hd : DgAt w g h rest) (hb : Blk w b 72 L.toArray) (hL : L.length = 32) 
    (hQ : ∀ (W : World) (x49 x50 x51 x52 x53 x54 x55 : Value), Blk W b 72 (splice L 4 ((be4U h.b).map B)).toArray → Kept (OneBlk b) w W → K ⟨#[.pointer (some ⟨g, 0, none⟩), u1, u2, u3, u4, u5, u6, .pointer (some ⟨b, 0, none⟩), u8, u9, u10, u11, u12, u13, u14, u15, u16, u17, u18, u19, u20, u21, u22, u23, u24, u25, u26, u27, u28, u29, u30, u31, u32, u33, u34, u35, u36, u37, u38, u39, u40, u41, u42, u43, u44, u45, u46, u47, u48, x49, x50, x51, x52, x53, x54, x55, u56, u57, u58, u59, u60, u61, u62, u63, u64, u65, u66, u67, u68, u69, u70, u71, u72, u73, u74, u75, u76, u77, u78, u79, u80, u81, u82, u83, u84, u85, u86, u87, u88, u89, u90, u91, u92, u93, u94, u95, u96, u97, u98, u99, u100, u101, u102, u103], []⟩ W) :
    csP1.wp Try.prog (Exit.then K (bodyPost Try.prog Try.f35 R)) ⟨#[.pointer (some ⟨g, 0, none⟩), u1, u2, u3, u4, u5, u6, .pointer (some ⟨b, 0, none⟩), u8, u9, u10, u11, u12, u13, u14, u15, u16, u17, u18, u19, u20, u21, u22, u23, u24, u25, u26, u27, u28, u29, u30, u31, u32, u33, u34, u35, u36, u37, u38, u39, u40, u41, u42, u43, u44, u45, u46, u47, u48, u49, u50, u51, u52, u53, u54, u55, u56, u57, u58, u59, u60, u61, u62, u63, u64, u65, u66, u67, u68, u69, u70, u71, u72, u73, u74, u75, u76, u77, u78, u79, u80, u81, u82, u83, u84, u85, u86, u87, u88, u89, u90, u91, u92, u93, u94, u95, u96, u97, u98, u99, u100, u101, u102, u103], []⟩ w := by
  have HQ := Lib.hid hQ
  have c1 : w.cell? ⟨g, 1, none⟩ = some (.int .u32 h.b) := Blk.cellIs hd rfl
  have HP := Lib.hid (bePut32_any b 4 28 28 72 L h.b w.drew hb (by omega) (by omega))
  clear hQ hd hb
  conv => arg 2; whnf
  go_region_with (go_at_call 38; refine HP.out.mono ?_; rintro e w2 ⟨rfl, hb2, k2⟩)
  all_goals exact HQ.out _ _ _ _ _ _ _ _ hb2 (((Kept.refl _ w).drew).trans k2)

set_option maxHeartbeats 4000000 in
set_option maxRecDepth 100000 in
theorem csPut2_wp (u1 u2 u3 u4 u5 u6 u8 u9 u10 u11 u12 u13 u14 u15 u16 u17 u18 u19 u20 u21 u22 u23 u24 u25 u26 u27 u28 u29 u30 u31 u32 u33 u34 u35 u36 u37 u38 u39 u40 u41 u42 u43 u44 u45 u46 u47 u48 u49 u50 u51 u52 u53 u54 u55 u56 u57 u58 u59 u60 u61 u62 u63 u64 u65 u66 u67 u68 u69 u70 u71 u72 u73 u74 u75 u76 u77 u78 u79 u80 u81 u82 u83 u84 u85 u86 u87 u88 u89 u90 u91 u92 u93 u94 u95 u96 u97 u98 u99 u100 u101 u102 u103 : Value) (g b : Nat) (h : Reg) (rest : List Value) (L : List Value) (w : World) (K : Act → World → Prop) (R : Ending → World → Prop) (hd : DgAt w g h rest) (hb : Blk w b 72 L.toArray) (hL : L.length = 32) 
    (hQ : ∀ (W : World) (x56 x57 x58 x59 x60 x61 x62 : Value), Blk W b 72 (splice L 8 ((be4U h.c).map B)).toArray → Kept (OneBlk b) w W → K ⟨#[.pointer (some ⟨g, 0, none⟩), u1, u2, u3, u4, u5, u6, .pointer (some ⟨b, 0, none⟩), u8, u9, u10, u11, u12, u13, u14, u15, u16, u17, u18, u19, u20, u21, u22, u23, u24, u25, u26, u27, u28, u29, u30, u31, u32, u33, u34, u35, u36, u37, u38, u39, u40, u41, u42, u43, u44, u45, u46, u47, u48, u49, u50, u51, u52, u53, u54, u55, x56, x57, x58, x59, x60, x61, x62, u63, u64, u65, u66, u67, u68, u69, u70, u71, u72, u73, u74, u75, u76, u77, u78, u79, u80, u81, u82, u83, u84, u85, u86, u87, u88, u89, u90, u91, u92, u93, u94, u95, u96, u97, u98, u99, u100, u101, u102, u103], []⟩ W) :
    csP2.wp Try.prog (Exit.then K (bodyPost Try.prog Try.f35 R)) ⟨#[.pointer (some ⟨g, 0, none⟩), u1, u2, u3, u4, u5, u6, .pointer (some ⟨b, 0, none⟩), u8, u9, u10, u11, u12, u13, u14, u15, u16, u17, u18, u19, u20, u21, u22, u23, u24, u25, u26, u27, u28, u29, u30, u31, u32, u33, u34, u35, u36, u37, u38, u39, u40, u41, u42, u43, u44, u45, u46, u47, u48, u49, u50, u51, u52, u53, u54, u55, u56, u57, u58, u59, u60, u61, u62, u63, u64, u65, u66, u67, u68, u69, u70, u71, u72, u73, u74, u75, u76, u77, u78, u79, u80, u81, u82, u83, u84, u85, u86, u87, u88, u89, u90, u91, u92, u93, u94, u95, u96, u97, u98, u99, u100, u101, u102, u103], []⟩ w := by
  have HQ := Lib.hid hQ
  have c2 : w.cell? ⟨g, 2, none⟩ = some (.int .u32 h.c) := Blk.cellIs hd rfl
  have HP := Lib.hid (bePut32_any b 8 24 24 72 L h.c w.drew hb (by omega) (by omega))
  clear hQ hd hb
  conv => arg 2; whnf
  go_region_with (go_at_call 38; refine HP.out.mono ?_; rintro e w2 ⟨rfl, hb2, k2⟩)
  all_goals exact HQ.out _ _ _ _ _ _ _ _ hb2 (((Kept.refl _ w).drew).trans k2)

set_option maxHeartbeats 4000000 in
set_option maxRecDepth 100000 in
theorem csPut3_wp (u1 u2 u3 u4 u5 u6 u8 u9 u10 u11 u12 u13 u14 u15 u16 u17 u18 u19 u20 u21 u22 u23 u24 u25 u26 u27 u28 u29 u30 u31 u32 u33 u34 u35 u36 u37 u38 u39 u40 u41 u42 u43 u44 u45 u46 u47 u48 u49 u50 u51 u52 u53 u54 u55 u56 u57 u58 u59 u60 u61 u62 u63 u64 u65 u66 u67 u68 u69 u70 u71 u72 u73 u74 u75 u76 u77 u78 u79 u80 u81 u82 u83 u84 u85 u86 u87 u88 u89 u90 u91 u92 u93 u94 u95 u96 u97 u98 u99 u100 u101 u102 u103 : Value) (g b : Nat) (h : Reg) (rest : List Value) (L : List Value) (w : World) (K : Act → World → Prop) (R : Ending → World → Prop) (hd : DgAt w g h rest) (hb : Blk w b 72 L.toArray) (hL : L.length = 32) 
    (hQ : ∀ (W : World) (x63 x64 x65 x66 x67 x68 x69 : Value), Blk W b 72 (splice L 12 ((be4U h.d).map B)).toArray → Kept (OneBlk b) w W → K ⟨#[.pointer (some ⟨g, 0, none⟩), u1, u2, u3, u4, u5, u6, .pointer (some ⟨b, 0, none⟩), u8, u9, u10, u11, u12, u13, u14, u15, u16, u17, u18, u19, u20, u21, u22, u23, u24, u25, u26, u27, u28, u29, u30, u31, u32, u33, u34, u35, u36, u37, u38, u39, u40, u41, u42, u43, u44, u45, u46, u47, u48, u49, u50, u51, u52, u53, u54, u55, u56, u57, u58, u59, u60, u61, u62, x63, x64, x65, x66, x67, x68, x69, u70, u71, u72, u73, u74, u75, u76, u77, u78, u79, u80, u81, u82, u83, u84, u85, u86, u87, u88, u89, u90, u91, u92, u93, u94, u95, u96, u97, u98, u99, u100, u101, u102, u103], []⟩ W) :
    csP3.wp Try.prog (Exit.then K (bodyPost Try.prog Try.f35 R)) ⟨#[.pointer (some ⟨g, 0, none⟩), u1, u2, u3, u4, u5, u6, .pointer (some ⟨b, 0, none⟩), u8, u9, u10, u11, u12, u13, u14, u15, u16, u17, u18, u19, u20, u21, u22, u23, u24, u25, u26, u27, u28, u29, u30, u31, u32, u33, u34, u35, u36, u37, u38, u39, u40, u41, u42, u43, u44, u45, u46, u47, u48, u49, u50, u51, u52, u53, u54, u55, u56, u57, u58, u59, u60, u61, u62, u63, u64, u65, u66, u67, u68, u69, u70, u71, u72, u73, u74, u75, u76, u77, u78, u79, u80, u81, u82, u83, u84, u85, u86, u87, u88, u89, u90, u91, u92, u93, u94, u95, u96, u97, u98, u99, u100, u101, u102, u103], []⟩ w := by
  have HQ := Lib.hid hQ
  have c3 : w.cell? ⟨g, 3, none⟩ = some (.int .u32 h.d) := Blk.cellIs hd rfl
  have HP := Lib.hid (bePut32_any b 12 20 20 72 L h.d w.drew hb (by omega) (by omega))
  clear hQ hd hb
  conv => arg 2; whnf
  go_region_with (go_at_call 38; refine HP.out.mono ?_; rintro e w2 ⟨rfl, hb2, k2⟩)
  all_goals exact HQ.out _ _ _ _ _ _ _ _ hb2 (((Kept.refl _ w).drew).trans k2)

set_option maxHeartbeats 4000000 in
set_option maxRecDepth 100000 in
theorem csPut4_wp (u1 u2 u3 u4 u5 u6 u8 u9 u10 u11 u12 u13 u14 u15 u16 u17 u18 u19 u20 u21 u22 u23 u24 u25 u26 u27 u28 u29 u30 u31 u32 u33 u34 u35 u36 u37 u38 u39 u40 u41 u42 u43 u44 u45 u46 u47 u48 u49 u50 u51 u52 u53 u54 u55 u56 u57 u58 u59 u60 u61 u62 u63 u64 u65 u66 u67 u68 u69 u70 u71 u72 u73 u74 u75 u76 u77 u78 u79 u80 u81 u82 u83 u84 u85 u86 u87 u88 u89 u90 u91 u92 u93 u94 u95 u96 u97 u98 u99 u100 u101 u102 u103 : Value) (g b : Nat) (h : Reg) (rest : List Value) (L : List Value) (w : World) (K : Act → World → Prop) (R : Ending → World → Prop) (hd : DgAt w g h rest) (hb : Blk w b 72 L.toArray) (hL : L.length = 32) 
    (hQ : ∀ (W : World) (x70 x71 x72 x73 x74 x75 x76 : Value), Blk W b 72 (splice L 16 ((be4U h.e).map B)).toArray → Kept (OneBlk b) w W → K ⟨#[.pointer (some ⟨g, 0, none⟩), u1, u2, u3, u4, u5, u6, .pointer (some ⟨b, 0, none⟩), u8, u9, u10, u11, u12, u13, u14, u15, u16, u17, u18, u19, u20, u21, u22, u23, u24, u25, u26, u27, u28, u29, u30, u31, u32, u33, u34, u35, u36, u37, u38, u39, u40, u41, u42, u43, u44, u45, u46, u47, u48, u49, u50, u51, u52, u53, u54, u55, u56, u57, u58, u59, u60, u61, u62, u63, u64, u65, u66, u67, u68, u69, x70, x71, x72, x73, x74, x75, x76, u77, u78, u79, u80, u81, u82, u83, u84, u85, u86, u87, u88, u89, u90, u91, u92, u93, u94, u95, u96, u97, u98, u99, u100, u101, u102, u103], []⟩ W) :
    csP4.wp Try.prog (Exit.then K (bodyPost Try.prog Try.f35 R)) ⟨#[.pointer (some ⟨g, 0, none⟩), u1, u2, u3, u4, u5, u6, .pointer (some ⟨b, 0, none⟩), u8, u9, u10, u11, u12, u13, u14, u15, u16, u17, u18, u19, u20, u21, u22, u23, u24, u25, u26, u27, u28, u29, u30, u31, u32, u33, u34, u35, u36, u37, u38, u39, u40, u41, u42, u43, u44, u45, u46, u47, u48, u49, u50, u51, u52, u53, u54, u55, u56, u57, u58, u59, u60, u61, u62, u63, u64, u65, u66, u67, u68, u69, u70, u71, u72, u73, u74, u75, u76, u77, u78, u79, u80, u81, u82, u83, u84, u85, u86, u87, u88, u89, u90, u91, u92, u93, u94, u95, u96, u97, u98, u99, u100, u101, u102, u103], []⟩ w := by
  have HQ := Lib.hid hQ
  have c4 : w.cell? ⟨g, 4, none⟩ = some (.int .u32 h.e) := Blk.cellIs hd rfl
  have HP := Lib.hid (bePut32_any b 16 16 16 72 L h.e w.drew hb (by omega) (by omega))
  clear hQ hd hb
  conv => arg 2; whnf
  go_region_with (go_at_call 38; refine HP.out.mono ?_; rintro e w2 ⟨rfl, hb2, k2⟩)
  all_goals exact HQ.out _ _ _ _ _ _ _ _ hb2 (((Kept.refl _ w).drew).trans k2)

set_option maxHeartbeats 4000000 in
set_option maxRecDepth 100000 in
theorem csPut5_wp (u1 u2 u3 u4 u5 u6 u8 u9 u10 u11 u12 u13 u14 u15 u16 u17 u18 u19 u20 u21 u22 u23 u24 u25 u26 u27 u28 u29 u30 u31 u32 u33 u34 u35 u36 u37 u38 u39 u40 u41 u42 u43 u44 u45 u46 u47 u48 u49 u50 u51 u52 u53 u54 u55 u56 u57 u58 u59 u60 u61 u62 u63 u64 u65 u66 u67 u68 u69 u70 u71 u72 u73 u74 u75 u76 u77 u78 u79 u80 u81 u82 u83 u84 u85 u86 u87 u88 u89 u90 u91 u92 u93 u94 u95 u96 u97 u98 u99 u100 u101 u102 u103 : Value) (g b : Nat) (h : Reg) (rest : List Value) (L : List Value) (w : World) (K : Act → World → Prop) (R : Ending → World → Prop) (hd : DgAt w g h rest) (hb : Blk w b 72 L.toArray) (hL : L.length = 32) 
    (hQ : ∀ (W : World) (x77 x78 x79 x80 x81 x82 x83 : Value), Blk W b 72 (splice L 20 ((be4U h.f).map B)).toArray → Kept (OneBlk b) w W → K ⟨#[.pointer (some ⟨g, 0, none⟩), u1, u2, u3, u4, u5, u6, .pointer (some ⟨b, 0, none⟩), u8, u9, u10, u11, u12, u13, u14, u15, u16, u17, u18, u19, u20, u21, u22, u23, u24, u25, u26, u27, u28, u29, u30, u31, u32, u33, u34, u35, u36, u37, u38, u39, u40, u41, u42, u43, u44, u45, u46, u47, u48, u49, u50, u51, u52, u53, u54, u55, u56, u57, u58, u59, u60, u61, u62, u63, u64, u65, u66, u67, u68, u69, u70, u71, u72, u73, u74, u75, u76, x77, x78, x79, x80, x81, x82, x83, u84, u85, u86, u87, u88, u89, u90, u91, u92, u93, u94, u95, u96, u97, u98, u99, u100, u101, u102, u103], []⟩ W) :
    csP5.wp Try.prog (Exit.then K (bodyPost Try.prog Try.f35 R)) ⟨#[.pointer (some ⟨g, 0, none⟩), u1, u2, u3, u4, u5, u6, .pointer (some ⟨b, 0, none⟩), u8, u9, u10, u11, u12, u13, u14, u15, u16, u17, u18, u19, u20, u21, u22, u23, u24, u25, u26, u27, u28, u29, u30, u31, u32, u33, u34, u35, u36, u37, u38, u39, u40, u41, u42, u43, u44, u45, u46, u47, u48, u49, u50, u51, u52, u53, u54, u55, u56, u57, u58, u59, u60, u61, u62, u63, u64, u65, u66, u67, u68, u69, u70, u71, u72, u73, u74, u75, u76, u77, u78, u79, u80, u81, u82, u83, u84, u85, u86, u87, u88, u89, u90, u91, u92, u93, u94, u95, u96, u97, u98, u99, u100, u101, u102, u103], []⟩ w := by
  have HQ := Lib.hid hQ
  have c5 : w.cell? ⟨g, 5, none⟩ = some (.int .u32 h.f) := Blk.cellIs hd rfl
  have HP := Lib.hid (bePut32_any b 20 12 12 72 L h.f w.drew hb (by omega) (by omega))
  clear hQ hd hb
  conv => arg 2; whnf
  go_region_with (go_at_call 38; refine HP.out.mono ?_; rintro e w2 ⟨rfl, hb2, k2⟩)
  all_goals exact HQ.out _ _ _ _ _ _ _ _ hb2 (((Kept.refl _ w).drew).trans k2)

set_option maxHeartbeats 4000000 in
set_option maxRecDepth 100000 in
theorem csPut6_wp (u1 u2 u3 u4 u5 u6 u8 u9 u10 u11 u12 u13 u14 u15 u16 u17 u18 u19 u20 u21 u22 u23 u24 u25 u26 u27 u28 u29 u30 u31 u32 u33 u34 u35 u36 u37 u38 u39 u40 u41 u42 u43 u44 u45 u46 u47 u48 u49 u50 u51 u52 u53 u54 u55 u56 u57 u58 u59 u60 u61 u62 u63 u64 u65 u66 u67 u68 u69 u70 u71 u72 u73 u74 u75 u76 u77 u78 u79 u80 u81 u82 u83 u84 u85 u86 u87 u88 u89 u90 u91 u92 u93 u94 u95 u96 u97 u98 u99 u100 u101 u102 u103 : Value) (g b : Nat) (h : Reg) (rest : List Value) (L : List Value) (w : World) (K : Act → World → Prop) (R : Ending → World → Prop) (hd : DgAt w g h rest) (hb : Blk w b 72 L.toArray) (hL : L.length = 32) 
    (hQ : ∀ (W : World) (x84 x85 x86 x87 x88 x89 x90 : Value), Blk W b 72 (splice L 24 ((be4U h.g).map B)).toArray → Kept (OneBlk b) w W → K ⟨#[.pointer (some ⟨g, 0, none⟩), u1, u2, u3, u4, u5, u6, .pointer (some ⟨b, 0, none⟩), u8, u9, u10, u11, u12, u13, u14, u15, u16, u17, u18, u19, u20, u21, u22, u23, u24, u25, u26, u27, u28, u29, u30, u31, u32, u33, u34, u35, u36, u37, u38, u39, u40, u41, u42, u43, u44, u45, u46, u47, u48, u49, u50, u51, u52, u53, u54, u55, u56, u57, u58, u59, u60, u61, u62, u63, u64, u65, u66, u67, u68, u69, u70, u71, u72, u73, u74, u75, u76, u77, u78, u79, u80, u81, u82, u83, x84, x85, x86, x87, x88, x89, x90, u91, u92, u93, u94, u95, u96, u97, u98, u99, u100, u101, u102, u103], []⟩ W) :
    csP6.wp Try.prog (Exit.then K (bodyPost Try.prog Try.f35 R)) ⟨#[.pointer (some ⟨g, 0, none⟩), u1, u2, u3, u4, u5, u6, .pointer (some ⟨b, 0, none⟩), u8, u9, u10, u11, u12, u13, u14, u15, u16, u17, u18, u19, u20, u21, u22, u23, u24, u25, u26, u27, u28, u29, u30, u31, u32, u33, u34, u35, u36, u37, u38, u39, u40, u41, u42, u43, u44, u45, u46, u47, u48, u49, u50, u51, u52, u53, u54, u55, u56, u57, u58, u59, u60, u61, u62, u63, u64, u65, u66, u67, u68, u69, u70, u71, u72, u73, u74, u75, u76, u77, u78, u79, u80, u81, u82, u83, u84, u85, u86, u87, u88, u89, u90, u91, u92, u93, u94, u95, u96, u97, u98, u99, u100, u101, u102, u103], []⟩ w := by
  have HQ := Lib.hid hQ
  have c6 : w.cell? ⟨g, 6, none⟩ = some (.int .u32 h.g) := Blk.cellIs hd rfl
  have HP := Lib.hid (bePut32_any b 24 8 8 72 L h.g w.drew hb (by omega) (by omega))
  clear hQ hd hb
  conv => arg 2; whnf
  go_region_with (go_at_call 38; refine HP.out.mono ?_; rintro e w2 ⟨rfl, hb2, k2⟩)
  all_goals exact HQ.out _ _ _ _ _ _ _ _ hb2 (((Kept.refl _ w).drew).trans k2)

set_option maxHeartbeats 4000000 in
set_option maxRecDepth 100000 in
theorem csPut7_wp (u1 u2 u3 u4 u5 u6 u8 u9 u10 u11 u12 u13 u14 u15 u16 u17 u18 u19 u20 u21 u22 u23 u24 u25 u26 u27 u28 u29 u30 u31 u32 u33 u34 u35 u36 u37 u38 u39 u40 u41 u42 u43 u44 u45 u46 u47 u48 u49 u50 u51 u52 u53 u54 u55 u56 u57 u58 u59 u60 u61 u62 u63 u64 u65 u66 u67 u68 u69 u70 u71 u72 u73 u74 u75 u76 u77 u78 u79 u80 u81 u82 u83 u84 u85 u86 u87 u88 u89 u90 u91 u92 u93 u94 u95 u96 u97 u98 u99 u100 u101 u102 u103 : Value) (g b : Nat) (h : Reg) (rest : List Value) (L : List Value) (w : World) (K : Act → World → Prop) (R : Ending → World → Prop) (hd : DgAt w g h rest) (hb : Blk w b 72 L.toArray) (hL : L.length = 32) (_c74 : w.cell? ⟨g, 74, none⟩ = some (.bool false)) 
    (hQ : ∀ (W : World) (x91 x92 x93 x94 x95 x96 x97 x98 x99 x100 x101 x102 : Value), Blk W b 72 (splice L 28 ((be4U h.h).map B)).toArray → Kept (OneBlk b) w W → K ⟨#[.pointer (some ⟨g, 0, none⟩), u1, u2, u3, u4, u5, u6, .pointer (some ⟨b, 0, none⟩), u8, u9, u10, u11, u12, u13, u14, u15, u16, u17, u18, u19, u20, u21, u22, u23, u24, u25, u26, u27, u28, u29, u30, u31, u32, u33, u34, u35, u36, u37, u38, u39, u40, u41, u42, u43, u44, u45, u46, u47, u48, u49, u50, u51, u52, u53, u54, u55, u56, u57, u58, u59, u60, u61, u62, u63, u64, u65, u66, u67, u68, u69, u70, u71, u72, u73, u74, u75, u76, u77, u78, u79, u80, u81, u82, u83, u84, u85, u86, u87, u88, u89, u90, x91, x92, x93, x94, x95, x96, x97, x98, x99, x100, x101, x102, u103], []⟩ W) :
    csL7.wp Try.prog (Exit.then K (bodyPost Try.prog Try.f35 R)) ⟨#[.pointer (some ⟨g, 0, none⟩), u1, u2, u3, u4, u5, u6, .pointer (some ⟨b, 0, none⟩), u8, u9, u10, u11, u12, u13, u14, u15, u16, u17, u18, u19, u20, u21, u22, u23, u24, u25, u26, u27, u28, u29, u30, u31, u32, u33, u34, u35, u36, u37, u38, u39, u40, u41, u42, u43, u44, u45, u46, u47, u48, u49, u50, u51, u52, u53, u54, u55, u56, u57, u58, u59, u60, u61, u62, u63, u64, u65, u66, u67, u68, u69, u70, u71, u72, u73, u74, u75, u76, u77, u78, u79, u80, u81, u82, u83, u84, u85, u86, u87, u88, u89, u90, u91, u92, u93, u94, u95, u96, u97, u98, u99, u100, u101, u102, u103], []⟩ w := by
  have HQ := Lib.hid hQ
  have c7 : w.cell? ⟨g, 7, none⟩ = some (.int .u32 h.h) := Blk.cellIs hd rfl
  have HP := Lib.hid (bePut32_any b 28 4 4 72 L h.h w.drew hb (by omega) (by omega))
  clear hQ hd hb
  conv => arg 2; whnf
  go_wp2_with fail
  go_region_with (go_at_call 38; refine HP.out.mono ?_; rintro e w2 ⟨rfl, hb2, k2⟩)
  all_goals (try (go_wp2_with fail))
  all_goals exact HQ.out _ _ _ _ _ _ _ _ _ _ _ _ _ hb2 (((Kept.refl _ w).drew).trans k2)

end Go.Proofs.Ytgkfnmmajehobaa
