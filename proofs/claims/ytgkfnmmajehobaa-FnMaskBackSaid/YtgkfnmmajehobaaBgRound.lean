/-
  sha256.blockGeneric: a round, whatever numbers _K holds (printed by gen_bg.py).
-/
import Derived.Test.YtgkfnmmajehobaaBgParts
import Derived.Test.YtgkfnmmajehobaaOwnS
namespace Go.Proofs.Ytgkfnmmajehobaa
open Go.RowKit

def UU (x : Int) : Value := .int .u32 x
/-- The eight words. -/
structure Reg where
  a : Int
  b : Int
  c : Int
  d : Int
  e : Int
  f : Int
  g : Int
  h : Int

def shaWord (p : List UInt8) (l : List Int) (i : Nat) : Int := if i < 16 then beW (p.getD (4 * i) 0).toNat (p.getD (4 * i + 1) 0).toNat (p.getD (4 * i + 2) 0).toNat (p.getD (4 * i + 3) 0).toNat else nextW (l.getD (i - 2) 0) (l.getD (i - 15) 0) (l.getD (i - 7) 0) (l.getD (i - 16) 0)
def shaW (p : List UInt8) : Nat → List Int
  | 0 => []
  | i + 1 => shaW p i ++ [shaWord p (shaW p i) i]
theorem shaW_length (p : List UInt8) (i : Nat) : (shaW p i).length = i := by
  induction i with
  | zero => rfl
  | succ i ih => unfold shaW; rw [List.length_append, ih]; rfl
/-- One round. -/
def stepR (r : Reg) (k w : Int) : Reg := ⟨(tOne r.e r.f r.g r.h k w + tTwo r.a r.b r.c) % 4294967296, r.a, r.b, r.c, (r.d + tOne r.e r.f r.g r.h k w) % 4294967296, r.e, r.f, r.g⟩
def shaR (K : List Int) (p : List UInt8) (r : Reg) : Nat → Reg
  | 0 => r
  | i + 1 => stepR (shaR K p r i) (K.getD i 0) (shaWord p (shaW p i) i)
def addR (r s : Reg) : Reg := ⟨(r.a + s.a) % 4294967296, (r.b + s.b) % 4294967296, (r.c + s.c) % 4294967296, (r.d + s.d) % 4294967296, (r.e + s.e) % 4294967296, (r.f + s.f) % 4294967296, (r.g + s.g) % 4294967296, (r.h + s.h) % 4294967296⟩
def blkS (K : List Int) (h : Reg) (p : List UInt8) : Reg := addR h (shaR K p h 64)

/-- The numbers that _K holds. -/
def KAt (w : World) (ks : List Int) : Prop := 0 < w.heap.size ∧ ks.length = 64 ∧ ∀ i x, ks[i]? = some x → w.cell? ⟨0, i, none⟩ = some (.int .u32 x)
theorem KAt.kept {w w' : World} {S : Nat → Prop} {ks : List Int} (h : KAt w ks) (k : Kept S w w') (hs : ¬ S 0) : KAt w' ks := ⟨Nat.lt_of_lt_of_le h.1 k.size, h.2.1, fun i x hx => (k.cell (p := ⟨0, i, none⟩) h.1 hs).trans (h.2.2 i x hx)⟩
theorem getI_of {s : List Int} {k : Nat} {x : Int} (h : s[k]? = some x) : s.getD k 0 = x := by rw [List.getD_eq_getElem?_getD, h]; rfl
theorem someI_at {s : List Int} {k : Nat} (h : k < s.length) : ∃ x, s[k]? = some x := ⟨_, List.getElem?_eq_getElem h⟩
theorem take_get {ws l : List Int} {j k : Nat} (h : ws.take j = l) (hl : l.length = j) (hk : k < j) : ws[k]? = some (l.getD k 0) := by
  obtain ⟨x, hx⟩ := someI_at (s := l) (k := k) (by omega)
  rw [getI_of hx, ← hx, ← h, List.getElem?_take, if_pos hk]
theorem take_more {ws : List Int} {j : Nat} (v : Int) (h : j < ws.length) : (ws.set j v).take (j + 1) = ws.take j ++ [v] := by
  rw [List.take_add_one, List.getElem?_set_self h, List.take_set_of_le (Nat.le_refl j)]
  rfl

noncomputable def bgR6 : Code := cl bgRound
noncomputable def bgR7 : Code := cl (cl (cr bgRound))
theorem bgRound_eq : bgRound = .seq bgR6 (.seq (.seq bgR7 (.cond (.tmp 84) bgLow bgHigh)) bgTail) := by kernel_rfl

set_option maxHeartbeats 4000000 in
set_option maxRecDepth 100000 in
theorem bgRoundLow (u0 u2 u3 u5 u6 u7 u8 u9 u10 u11 u12 u21 u22 u23 u24 u25 u26 u27 u28 u29 u30 u31 u32 u33 u34 u35 u36 u37 u38 u39 u40 u41 u42 u43 u44 u45 u46 u47 u48 u49 u50 u51 u52 u53 u54 u55 u56 u57 u58 u59 u60 u61 u62 u63 u64 u65 u66 u67 u68 u69 u70 u71 u72 u73 u74 u75 u76 u77 u78 u79 u81 u82 u83 u84 u85 u86 u87 u88 u89 u90 u91 u92 u93 u94 u95 u96 u97 u98 u99 u100 u101 u102 u103 u104 u105 u106 u107 u108 u109 u110 u111 u112 u113 u114 u115 u116 u117 u118 u119 u120 u121 u122 u123 u124 u125 u126 u127 u128 u129 u130 u131 u132 u133 u134 u135 u136 u137 u138 u139 u140 u141 u142 u143 u144 u145 u146 u147 u148 u149 u150 u151 u152 u153 u154 u155 u156 u157 u158 u159 u160 u161 u162 u163 u164 u165 u166 u167 u168 u169 u170 u171 u172 u173 u174 u175 u176 u177 u178 u179 u180 u181 u182 u183 u184 u185 u186 u187 u188 u189 u190 u191 u192 u193 u194 u195 u196 u197 u198 u199 u200 u201 u202 u203 u204 u205 u206 u207 u208 u209 u210 u211 u212 u213 u214 u215 u216 u217 u218 u219 u220 u221 u222 u223 u224 u225 u226 u227 u228 u229 u230 u231 u232 u233 u234 u235 u236 u237 u238 u239 u240 u241 u242 u243 u244 u245 u246 u247 u248 u249 u250 u251 u252 u253 u254 u255 u256 u257 u258 u259 u260 u261 u262 u263 u264 u265 u266 u267 u268 u269 u270 u271 u272 u273 u274 u275 u276 u277 u278 u279 u280 u281 u282 : Value) (wb bb off n c j : Nat) (S : Reg) (ks ws : List Int) (bk : List UInt8) (w : World) (Q : Exit → Act → World → Prop)
    (hj : j < 64) (hn : 64 ≤ n) (hks : KAt w ks) (hws : ws.length = 64) (_htk : ws.take j = shaW bk j) (hb : Blk w wb 79 (ws.map UU).toArray) (hbk : bk.length = 64) (hby : ∀ t x, bk[t]? = some x → w.cell? ⟨bb, off + t, none⟩ = some (.int .u8 (x.toNat : Int)))  (hw0 : wb ≠ 0) (hlo : j < 16)
    (hQ : ∀ (W : World) (x22 x23 x24 x25 x26 x27 x28 x82 x83 x84 x85 x86 x87 x88 x89 x90 x91 x92 x93 x94 x95 x96 x97 x98 x99 x100 x101 x102 x103 x104 x105 x106 x107 x108 x109 x110 x111 x112 x113 x114 x115 x116 x117 x118 x119 x120 x121 x122 x123 x124 x125 x126 x127 x128 x129 x130 x131 x132 x133 x134 x135 x136 x137 x138 x139 x140 x141 x142 x143 x144 x145 x146 x147 x148 x149 x150 x151 x152 x153 x154 x155 x156 x157 x158 x159 x160 x161 x162 x163 x164 x165 x166 x167 x168 x169 x170 x171 x172 x173 x174 x175 x176 x177 x178 x179 x180 x181 x182 x183 x184 x185 x186 x187 x188 x189 x190 x191 x192 x193 x194 x195 x196 x197 x198 x199 x200 x201 x202 x203 x204 x205 x206 x207 x208 x209 x210 x211 x212 x213 x214 x215 : Value), Blk W wb 79 ((ws.set j (shaWord bk (shaW bk j) j)).map UU).toArray → Kept (OneBlk wb) w W → Q .normal ⟨#[u0, .slice (some ⟨bb, off, none⟩) n c, u2, u3, .pointer (some ⟨wb, 0, none⟩), u5, u6, u7, u8, u9, u10, u11, u12, .int .u32 (stepR S (ks.getD j 0) (shaWord bk (shaW bk j) j)).a, .int .u32 (stepR S (ks.getD j 0) (shaWord bk (shaW bk j) j)).b, .int .u32 (stepR S (ks.getD j 0) (shaWord bk (shaW bk j) j)).c, .int .u32 (stepR S (ks.getD j 0) (shaWord bk (shaW bk j) j)).d, .int .u32 (stepR S (ks.getD j 0) (shaWord bk (shaW bk j) j)).e, .int .u32 (stepR S (ks.getD j 0) (shaWord bk (shaW bk j) j)).f, .int .u32 (stepR S (ks.getD j 0) (shaWord bk (shaW bk j) j)).g, .int .u32 (stepR S (ks.getD j 0) (shaWord bk (shaW bk j) j)).h, .int .i64 (j : Int), x22, x23, x24, x25, x26, x27, x28, u29, u30, u31, u32, u33, u34, u35, u36, u37, u38, u39, u40, u41, u42, u43, u44, u45, u46, u47, u48, u49, u50, u51, u52, u53, u54, u55, u56, u57, u58, u59, u60, u61, u62, u63, u64, u65, u66, u67, u68, u69, u70, u71, u72, u73, u74, u75, u76, u77, u78, u79, .int .i64 (j : Int), u81, x82, x83, x84, x85, x86, x87, x88, x89, x90, x91, x92, x93, x94, x95, x96, x97, x98, x99, x100, x101, x102, x103, x104, x105, x106, x107, x108, x109, x110, x111, x112, x113, x114, x115, x116, x117, x118, x119, x120, x121, x122, x123, x124, x125, x126, x127, x128, x129, x130, x131, x132, x133, x134, x135, x136, x137, x138, x139, x140, x141, x142, x143, x144, x145, x146, x147, x148, x149, x150, x151, x152, x153, x154, x155, x156, x157, x158, x159, x160, x161, x162, x163, x164, x165, x166, x167, x168, x169, x170, x171, x172, x173, x174, x175, x176, x177, x178, x179, x180, x181, x182, x183, x184, x185, x186, x187, x188, x189, x190, x191, x192, x193, x194, x195, x196, x197, x198, x199, x200, x201, x202, x203, x204, x205, x206, x207, x208, x209, x210, x211, x212, x213, x214, x215, u216, u217, u218, u219, u220, u221, u222, u223, u224, u225, u226, u227, u228, u229, u230, u231, u232, u233, u234, u235, u236, u237, u238, u239, u240, u241, u242, u243, u244, u245, u246, u247, u248, u249, u250, u251, u252, u253, u254, u255, u256, u257, u258, u259, u260, u261, u262, u263, u264, u265, u266, u267, u268, u269, u270, u271, u272, u273, u274, u275, u276, u277, u278, u279, u280, u281, u282], []⟩ W) :
    bgRound.wp Try.prog Q ⟨#[u0, .slice (some ⟨bb, off, none⟩) n c, u2, u3, .pointer (some ⟨wb, 0, none⟩), u5, u6, u7, u8, u9, u10, u11, u12, .int .u32 S.a, .int .u32 S.b, .int .u32 S.c, .int .u32 S.d, .int .u32 S.e, .int .u32 S.f, .int .u32 S.g, .int .u32 S.h, u21, u22, u23, u24, u25, u26, u27, u28, u29, u30, u31, u32, u33, u34, u35, u36, u37, u38, u39, u40, u41, u42, u43, u44, u45, u46, u47, u48, u49, u50, u51, u52, u53, u54, u55, u56, u57, u58, u59, u60, u61, u62, u63, u64, u65, u66, u67, u68, u69, u70, u71, u72, u73, u74, u75, u76, u77, u78, u79, .int .i64 (j : Int), u81, u82, u83, u84, u85, u86, u87, u88, u89, u90, u91, u92, u93, u94, u95, u96, u97, u98, u99, u100, u101, u102, u103, u104, u105, u106, u107, u108, u109, u110, u111, u112, u113, u114, u115, u116, u117, u118, u119, u120, u121, u122, u123, u124, u125, u126, u127, u128, u129, u130, u131, u132, u133, u134, u135, u136, u137, u138, u139, u140, u141, u142, u143, u144, u145, u146, u147, u148, u149, u150, u151, u152, u153, u154, u155, u156, u157, u158, u159, u160, u161, u162, u163, u164, u165, u166, u167, u168, u169, u170, u171, u172, u173, u174, u175, u176, u177, u178, u179, u180, u181, u182, u183, u184, u185, u186, u187, u188, u189, u190, u191, u192, u193, u194, u195, u196, u197, u198, u199, u200, u201, u202, u203, u204, u205, u206, u207, u208, u209, u210, u211, u212, u213, u214, u215, u216, u217, u218, u219, u220, u221, u222, u223, u224, u225, u226, u227, u228, u229, u230, u231, u232, u233, u234, u235, u236, u237, u238, u239, u240, u241, u242, u243, u244, u245, u246, u247, u248, u249, u250, u251, u252, u253, u254, u255, u256, u257, u258, u259, u260, u261, u262, u263, u264, u265, u266, u267, u268, u269, u270, u271, u272, u273, u274, u275, u276, u277, u278, u279, u280, u281, u282], []⟩ w := by
  obtain ⟨x0, hx0⟩ := some_at (s := bk) (k := 4 * j + 0) (by omega)
  have hb0 : bk.getD (4 * j + 0) 0 = x0 := getD_of hx0
  have d0 := hby _ _ hx0
  obtain ⟨X0, hX0⟩ : ∃ X, x0.toNat = X := ⟨_, rfl⟩
  have lX0 : X0 ≤ 255 := by have := x0.toNat_lt; omega
  rw [hX0] at d0
  have f0 : IntKind.u32.wrap (X0 : Int) = (X0 : Int) := by rw [IntKind.wrap_u32]; omega
  obtain ⟨x1, hx1⟩ := some_at (s := bk) (k := 4 * j + 1) (by omega)
  have hb1 : bk.getD (4 * j + 1) 0 = x1 := getD_of hx1
  have d1 := hby _ _ hx1
  obtain ⟨X1, hX1⟩ : ∃ X, x1.toNat = X := ⟨_, rfl⟩
  have lX1 : X1 ≤ 255 := by have := x1.toNat_lt; omega
  rw [hX1] at d1
  have f1 : IntKind.u32.wrap (X1 : Int) = (X1 : Int) := by rw [IntKind.wrap_u32]; omega
  obtain ⟨x2, hx2⟩ := some_at (s := bk) (k := 4 * j + 2) (by omega)
  have hb2 : bk.getD (4 * j + 2) 0 = x2 := getD_of hx2
  have d2 := hby _ _ hx2
  obtain ⟨X2, hX2⟩ : ∃ X, x2.toNat = X := ⟨_, rfl⟩
  have lX2 : X2 ≤ 255 := by have := x2.toNat_lt; omega
  rw [hX2] at d2
  have f2 : IntKind.u32.wrap (X2 : Int) = (X2 : Int) := by rw [IntKind.wrap_u32]; omega
  obtain ⟨x3, hx3⟩ := some_at (s := bk) (k := 4 * j + 3) (by omega)
  have hb3 : bk.getD (4 * j + 3) 0 = x3 := getD_of hx3
  have d3 := hby _ _ hx3
  obtain ⟨X3, hX3⟩ : ∃ X, x3.toNat = X := ⟨_, rfl⟩
  have lX3 : X3 ≤ 255 := by have := x3.toNat_lt; omega
  rw [hX3] at d3
  have f3 : IntKind.u32.wrap (X3 : Int) = (X3 : Int) := by rw [IntKind.wrap_u32]; omega
  obtain ⟨v, hv⟩ : ∃ v, beW X0 X1 X2 X3 = v := ⟨_, rfl⟩
  have hsw : shaWord bk (shaW bk j) j = v := by
    unfold shaWord
    rw [if_pos hlo, show 4 * j = 4 * j + 0 from rfl, hb0, hb1, hb2, hb3, hX0, hX1, hX2, hX3]
    exact hv
  rw [hsw] at hQ
  obtain ⟨y, hy⟩ := someI_at (s := ws) (k := j) (by omega)
  have dw : w.cell? ⟨wb, j, none⟩ = some (.int .u32 y) := Blk.cellIs hb (by rw [List.getElem?_toArray, List.getElem?_map, hy]; rfl)
  have fr := Blk.frozen hb j
  rw [bgRound_eq]
  refine wp_seq ?_
  conv => arg 2; whnf
  have hjs : (j : Int) < 16 := by omega
  have HQ := Lib.hid hQ
  clear hQ hby hx0 hx1 hx2 hx3 hb0 hb1 hb2 hb3 hX0 hX1 hX2 hX3 hsw hy
  have ev := hv
  unfold beW at ev
  have hj64 : (j : Int) < 64 := by omega
  have hn64 : (64 : Int) ≤ (n : Int) := by omega
  have HD := Lib.hid (And.intro d0 (And.intro d1 (And.intro d2 (And.intro d3 (And.intro dw (And.intro ev (And.intro hks (And.intro hb hws))))))))
  clear d0 d1 d2 d3 dw ev hv hks hb _htk hws
  go_wp2_with fail
  conv => arg 2; whnf
  go_wp2_with fail
  rename_i K hK
  obtain ⟨d0, d1, d2, d3, dw, ev, hks, hb, hws⟩ := HD.out
  refine bgLow_wp _ _ _ _ _ _ _ _ _ _ _ _ _ _ _ _ _ _ _ _ _ _ _ _ _ _ _ _ _ _ _ _ _ _ _ _ _ _ _ _ _ _ _ _ _ _ _ _ _ _ _ _ _ _ _ _ _ _ _ _ _ _ _ _ _ _ _ _ _ _ _ _ _ _ _ _ _ _ _ _ _ _ _ _ _ _ _ _ _ _ _ _ _ _ _ _ _ _ _ _ _ _ _ _ _ _ _ _ _ _ _ _ _ _ _ _ _ _ _ _ _ _ _ _ _ _ _ _ _ _ _ _ _ _ _ _ _ _ _ _ _ _ _ _ _ _ _ _ _ _ _ _ _ _ _ _ _ _ _ _ _ _ _ _ _ _ _ _ _ _ _ _ _ _ _ _ _ _ _ _ _ _ _ _ _ _ _ _ _ _ _ _ _ _ _ _ _ _ _ _ _ _ _ _ _ _ _ _ _ _ _ _ _ _ _ _ _ _ _ _ _ _ _ _ _ _ _ _ _ _ _ _ _ _ _ _ _ _ _ _ _ _ _ _ _ _ _ _ _ _ _ _ _ _ _ _ _ _ _ _ _ _ _ _ _ _ _ _ _ _ _ _ _ _ _ _ _ _ _ _ wb bb off n c j (4 * j + 0) (4 * j + 1) (4 * j + 2) (4 * j + 3) X0 X1 X2 X3 v y w (Exit.then K Q) hj64 hn64 ?_ ?_ ?_ ?_ (by omega) (by omega) (by omega) (by omega) f0 f1 f2 f3 lX0 lX1 lX2 lX3 d0 d1 d2 d3 ev dw fr ?_
  · rw [IntKind.wrap_i64]; omega
  · rw [IntKind.wrap_i64]; omega
  · rw [IntKind.wrap_i64]; omega
  · rw [IntKind.wrap_i64]; omega
  · intro W x22 x85 x86 x87 x88 x89 x90 x91 x92 x93 x94 x95 x96 x97 x98 x99 x100 x101 x102 x103 x104 x105 x106 x107 x108 x109 x110 x111 x112 x113 x114 x115 x116 x117 hW
    refine hK _ _ ?_
    have K5 : Kept (OneBlk wb) w W := by rw [hW]; exact ((Kept.refl _ w).setOne j _).drew
    have B5 : Blk W wb 79 ((ws.set j v).map UU).toArray := by
      rw [hW]
      have h := (Blk.set_ hb j (UU v)).drew
      rw [List.setIfInBounds_toArray] at h
      rw [List.map_set]
      exact h
    have ka5 := hks.kept K5 (fun e => hw0 e.symm)
    obtain ⟨kj, hkj⟩ := someI_at (s := ks) (k := j) (by rw [ka5.2.1]; exact hj)
    have dk : W.cell? ⟨0, j, none⟩ = some (.int .u32 kj) := ka5.2.2 j kj hkj
    have dv : W.cell? ⟨wb, j, none⟩ = some (.int .u32 v) := Blk.cellIs B5 (by rw [List.getElem?_toArray, List.getElem?_map, List.getElem?_set_self (by rw [hws]; exact hj)]; rfl)
    have ek : ks.getD j 0 = kj := getI_of hkj
    refine bgTail_wp _ _ _ _ _ _ _ _ _ _ _ _ _ _ _ _ _ _ _ _ _ _ _ _ _ _ _ _ _ _ _ _ _ _ _ _ _ _ _ _ _ _ _ _ _ _ _ _ _ _ _ _ _ _ _ _ _ _ _ _ _ _ _ _ _ _ _ _ _ _ _ _ _ _ _ _ _ _ _ _ _ _ _ _ _ _ _ _ _ _ _ _ _ _ _ _ _ _ _ _ _ _ _ _ _ _ _ _ _ _ _ _ _ _ _ _ _ _ _ _ _ _ _ _ _ _ _ _ _ _ _ _ _ _ _ _ _ _ _ _ _ _ _ _ _ _ _ _ _ _ _ _ _ _ _ _ _ _ _ _ _ _ _ _ _ _ _ _ _ _ _ _ _ _ _ _ _ _ _ _ _ _ _ _ _ _ _ _ _ _ _ _ _ _ _ _ _ _ _ _ _ _ _ _ _ _ _ _ _ _ _ _ _ _ _ _ _ _ _ _ _ _ _ _ _ _ _ _ _ _ _ _ _ _ _ _ _ _ _ _ _ _ _ _ _ _ _ _ _ _ _ _ _ _ _ _ _ _ _ _ _ _ _ _ _ _ _ _ _ _ _ _ _ wb j S.a S.b S.c S.d S.e S.f S.g S.h kj v W Q hj64 dk dv ?_
    intro m x27 x28 x157 x158 x159 x160 x161 x162 x163 x164 x165 x166 x167 x168 x169 x170 x171 x172 x173 x174 x175 x176 x177 x178 x179 x180 x181 x182 x183 x184 x185 x186 x187 x188 x189 x190 x191 x192 x193 x194 x195 x196 x197 x198 x199 x200 x201 x202 x203 x204 x205 x206 x207 x208 x209 x210 x211 x212 x213 x214 x215
    rw [ek] at HQ
    exact HQ.out (W.drewN m) _ _ _ _ _ _ _ _ _ _ _ _ _ _ _ _ _ _ _ _ _ _ _ _ _ _ _ _ _ _ _ _ _ _ _ _ _ _ _ _ _ _ _ _ _ _ _ _ _ _ _ _ _ _ _ _ _ _ _ _ _ _ _ _ _ _ _ _ _ _ _ _ _ _ _ _ _ _ _ _ _ _ _ _ _ _ _ _ _ _ _ _ _ _ _ _ _ _ _ _ _ _ _ _ _ _ _ _ _ _ _ _ _ _ _ _ _ _ _ _ _ _ _ _ _ _ _ _ _ _ _ _ _ _ _ _ _ _ _ _ _ (B5.drewN m) (K5.drewN m)

set_option maxHeartbeats 4000000 in
set_option maxRecDepth 100000 in
theorem bgRoundHigh (u0 u2 u3 u5 u6 u7 u8 u9 u10 u11 u12 u21 u22 u23 u24 u25 u26 u27 u28 u29 u30 u31 u32 u33 u34 u35 u36 u37 u38 u39 u40 u41 u42 u43 u44 u45 u46 u47 u48 u49 u50 u51 u52 u53 u54 u55 u56 u57 u58 u59 u60 u61 u62 u63 u64 u65 u66 u67 u68 u69 u70 u71 u72 u73 u74 u75 u76 u77 u78 u79 u81 u82 u83 u84 u85 u86 u87 u88 u89 u90 u91 u92 u93 u94 u95 u96 u97 u98 u99 u100 u101 u102 u103 u104 u105 u106 u107 u108 u109 u110 u111 u112 u113 u114 u115 u116 u117 u118 u119 u120 u121 u122 u123 u124 u125 u126 u127 u128 u129 u130 u131 u132 u133 u134 u135 u136 u137 u138 u139 u140 u141 u142 u143 u144 u145 u146 u147 u148 u149 u150 u151 u152 u153 u154 u155 u156 u157 u158 u159 u160 u161 u162 u163 u164 u165 u166 u167 u168 u169 u170 u171 u172 u173 u174 u175 u176 u177 u178 u179 u180 u181 u182 u183 u184 u185 u186 u187 u188 u189 u190 u191 u192 u193 u194 u195 u196 u197 u198 u199 u200 u201 u202 u203 u204 u205 u206 u207 u208 u209 u210 u211 u212 u213 u214 u215 u216 u217 u218 u219 u220 u221 u222 u223 u224 u225 u226 u227 u228 u229 u230 u231 u232 u233 u234 u235 u236 u237 u238 u239 u240 u241 u242 u243 u244 u245 u246 u247 u248 u249 u250 u251 u252 u253 u254 u255 u256 u257 u258 u259 u260 u261 u262 u263 u264 u265 u266 u267 u268 u269 u270 u271 u272 u273 u274 u275 u276 u277 u278 u279 u280 u281 u282 : Value) (wb bb off n c j : Nat) (S : Reg) (ks ws : List Int) (bk : List UInt8) (w : World) (Q : Exit → Act → World → Prop)
    (hj : j < 64) (_hn : 64 ≤ n) (hks : KAt w ks) (hws : ws.length = 64) (htk : ws.take j = shaW bk j) (hb : Blk w wb 79 (ws.map UU).toArray) (_hbk : bk.length = 64) (_hby : ∀ t x, bk[t]? = some x → w.cell? ⟨bb, off + t, none⟩ = some (.int .u8 (x.toNat : Int)))  (hw0 : wb ≠ 0) (hhi : 16 ≤ j)
    (hQ : ∀ (W : World) (x22 x23 x24 x25 x26 x27 x28 x82 x83 x84 x85 x86 x87 x88 x89 x90 x91 x92 x93 x94 x95 x96 x97 x98 x99 x100 x101 x102 x103 x104 x105 x106 x107 x108 x109 x110 x111 x112 x113 x114 x115 x116 x117 x118 x119 x120 x121 x122 x123 x124 x125 x126 x127 x128 x129 x130 x131 x132 x133 x134 x135 x136 x137 x138 x139 x140 x141 x142 x143 x144 x145 x146 x147 x148 x149 x150 x151 x152 x153 x154 x155 x156 x157 x158 x159 x160 x161 x162 x163 x164 x165 x166 x167 x168 x169 x170 x171 x172 x173 x174 x175 x176 x177 x178 x179 x180 x181 x182 x183 x184 x185 x186 x187 x188 x189 x190 x191 x192 x193 x194 x195 x196 x197 x198 x199 x200 x201 x202 x203 x204 x205 x206 x207 x208 x209 x210 x211 x212 x213 x214 x215 : Value), Blk W wb 79 ((ws.set j (shaWord bk (shaW bk j) j)).map UU).toArray → Kept (OneBlk wb) w W → Q .normal ⟨#[u0, .slice (some ⟨bb, off, none⟩) n c, u2, u3, .pointer (some ⟨wb, 0, none⟩), u5, u6, u7, u8, u9, u10, u11, u12, .int .u32 (stepR S (ks.getD j 0) (shaWord bk (shaW bk j) j)).a, .int .u32 (stepR S (ks.getD j 0) (shaWord bk (shaW bk j) j)).b, .int .u32 (stepR S (ks.getD j 0) (shaWord bk (shaW bk j) j)).c, .int .u32 (stepR S (ks.getD j 0) (shaWord bk (shaW bk j) j)).d, .int .u32 (stepR S (ks.getD j 0) (shaWord bk (shaW bk j) j)).e, .int .u32 (stepR S (ks.getD j 0) (shaWord bk (shaW bk j) j)).f, .int .u32 (stepR S (ks.getD j 0) (shaWord bk (shaW bk j) j)).g, .int .u32 (stepR S (ks.getD j 0) (shaWord bk (shaW bk j) j)).h, .int .i64 (j : Int), x22, x23, x24, x25, x26, x27, x28, u29, u30, u31, u32, u33, u34, u35, u36, u37, u38, u39, u40, u41, u42, u43, u44, u45, u46, u47, u48, u49, u50, u51, u52, u53, u54, u55, u56, u57, u58, u59, u60, u61, u62, u63, u64, u65, u66, u67, u68, u69, u70, u71, u72, u73, u74, u75, u76, u77, u78, u79, .int .i64 (j : Int), u81, x82, x83, x84, x85, x86, x87, x88, x89, x90, x91, x92, x93, x94, x95, x96, x97, x98, x99, x100, x101, x102, x103, x104, x105, x106, x107, x108, x109, x110, x111, x112, x113, x114, x115, x116, x117, x118, x119, x120, x121, x122, x123, x124, x125, x126, x127, x128, x129, x130, x131, x132, x133, x134, x135, x136, x137, x138, x139, x140, x141, x142, x143, x144, x145, x146, x147, x148, x149, x150, x151, x152, x153, x154, x155, x156, x157, x158, x159, x160, x161, x162, x163, x164, x165, x166, x167, x168, x169, x170, x171, x172, x173, x174, x175, x176, x177, x178, x179, x180, x181, x182, x183, x184, x185, x186, x187, x188, x189, x190, x191, x192, x193, x194, x195, x196, x197, x198, x199, x200, x201, x202, x203, x204, x205, x206, x207, x208, x209, x210, x211, x212, x213, x214, x215, u216, u217, u218, u219, u220, u221, u222, u223, u224, u225, u226, u227, u228, u229, u230, u231, u232, u233, u234, u235, u236, u237, u238, u239, u240, u241, u242, u243, u244, u245, u246, u247, u248, u249, u250, u251, u252, u253, u254, u255, u256, u257, u258, u259, u260, u261, u262, u263, u264, u265, u266, u267, u268, u269, u270, u271, u272, u273, u274, u275, u276, u277, u278, u279, u280, u281, u282], []⟩ W) :
    bgRound.wp Try.prog Q ⟨#[u0, .slice (some ⟨bb, off, none⟩) n c, u2, u3, .pointer (some ⟨wb, 0, none⟩), u5, u6, u7, u8, u9, u10, u11, u12, .int .u32 S.a, .int .u32 S.b, .int .u32 S.c, .int .u32 S.d, .int .u32 S.e, .int .u32 S.f, .int .u32 S.g, .int .u32 S.h, u21, u22, u23, u24, u25, u26, u27, u28, u29, u30, u31, u32, u33, u34, u35, u36, u37, u38, u39, u40, u41, u42, u43, u44, u45, u46, u47, u48, u49, u50, u51, u52, u53, u54, u55, u56, u57, u58, u59, u60, u61, u62, u63, u64, u65, u66, u67, u68, u69, u70, u71, u72, u73, u74, u75, u76, u77, u78, u79, .int .i64 (j : Int), u81, u82, u83, u84, u85, u86, u87, u88, u89, u90, u91, u92, u93, u94, u95, u96, u97, u98, u99, u100, u101, u102, u103, u104, u105, u106, u107, u108, u109, u110, u111, u112, u113, u114, u115, u116, u117, u118, u119, u120, u121, u122, u123, u124, u125, u126, u127, u128, u129, u130, u131, u132, u133, u134, u135, u136, u137, u138, u139, u140, u141, u142, u143, u144, u145, u146, u147, u148, u149, u150, u151, u152, u153, u154, u155, u156, u157, u158, u159, u160, u161, u162, u163, u164, u165, u166, u167, u168, u169, u170, u171, u172, u173, u174, u175, u176, u177, u178, u179, u180, u181, u182, u183, u184, u185, u186, u187, u188, u189, u190, u191, u192, u193, u194, u195, u196, u197, u198, u199, u200, u201, u202, u203, u204, u205, u206, u207, u208, u209, u210, u211, u212, u213, u214, u215, u216, u217, u218, u219, u220, u221, u222, u223, u224, u225, u226, u227, u228, u229, u230, u231, u232, u233, u234, u235, u236, u237, u238, u239, u240, u241, u242, u243, u244, u245, u246, u247, u248, u249, u250, u251, u252, u253, u254, u255, u256, u257, u258, u259, u260, u261, u262, u263, u264, u265, u266, u267, u268, u269, u270, u271, u272, u273, u274, u275, u276, u277, u278, u279, u280, u281, u282], []⟩ w := by
  have hlen := shaW_length bk j
  obtain ⟨v2, hv2⟩ : ∃ z, (shaW bk j).getD (j - 2) 0 = z := ⟨_, rfl⟩
  have d2 : w.cell? ⟨wb, j - 2, none⟩ = some (.int .u32 v2) := Blk.cellIs hb (by rw [List.getElem?_toArray, List.getElem?_map, take_get htk hlen (by omega), hv2]; rfl)
  obtain ⟨v15, hv15⟩ : ∃ z, (shaW bk j).getD (j - 15) 0 = z := ⟨_, rfl⟩
  have d15 : w.cell? ⟨wb, j - 15, none⟩ = some (.int .u32 v15) := Blk.cellIs hb (by rw [List.getElem?_toArray, List.getElem?_map, take_get htk hlen (by omega), hv15]; rfl)
  obtain ⟨v7, hv7⟩ : ∃ z, (shaW bk j).getD (j - 7) 0 = z := ⟨_, rfl⟩
  have d7 : w.cell? ⟨wb, j - 7, none⟩ = some (.int .u32 v7) := Blk.cellIs hb (by rw [List.getElem?_toArray, List.getElem?_map, take_get htk hlen (by omega), hv7]; rfl)
  obtain ⟨v16, hv16⟩ : ∃ z, (shaW bk j).getD (j - 16) 0 = z := ⟨_, rfl⟩
  have d16 : w.cell? ⟨wb, j - 16, none⟩ = some (.int .u32 v16) := Blk.cellIs hb (by rw [List.getElem?_toArray, List.getElem?_map, take_get htk hlen (by omega), hv16]; rfl)
  obtain ⟨v, hv⟩ : ∃ v, nextW v2 v15 v7 v16 = v := ⟨_, rfl⟩
  have hsw : shaWord bk (shaW bk j) j = v := by
    unfold shaWord
    rw [if_neg (by omega), hv2, hv15, hv7, hv16]
    exact hv
  rw [hsw] at hQ
  obtain ⟨y, hy⟩ := someI_at (s := ws) (k := j) (by omega)
  have dw : w.cell? ⟨wb, j, none⟩ = some (.int .u32 y) := Blk.cellIs hb (by rw [List.getElem?_toArray, List.getElem?_map, hy]; rfl)
  have fr := Blk.frozen hb j
  rw [bgRound_eq]
  refine wp_seq ?_
  conv => arg 2; whnf
  have hjs : ¬ (j : Int) < 16 := by omega
  have HQ := Lib.hid hQ
  have hj64 : (j : Int) < 64 := by omega
  have HD := Lib.hid (And.intro d2 (And.intro d15 (And.intro d7 (And.intro d16 (And.intro dw (And.intro hv (And.intro hks (And.intro hb hws))))))))
  clear hQ _hby hsw hy d2 d15 d7 d16 dw hv hks hb htk hws hv2 hv15 hv7 hv16 hlen
  go_wp2_with fail
  conv => arg 2; whnf
  go_wp2_with fail
  rename_i K hK _
  obtain ⟨d2, d15, d7, d16, dw, ev, hks, hb, hws⟩ := HD.out
  refine bgHigh_wp _ _ _ _ _ _ _ _ _ _ _ _ _ _ _ _ _ _ _ _ _ _ _ _ _ _ _ _ _ _ _ _ _ _ _ _ _ _ _ _ _ _ _ _ _ _ _ _ _ _ _ _ _ _ _ _ _ _ _ _ _ _ _ _ _ _ _ _ _ _ _ _ _ _ _ _ _ _ _ _ _ _ _ _ _ _ _ _ _ _ _ _ _ _ _ _ _ _ _ _ _ _ _ _ _ _ _ _ _ _ _ _ _ _ _ _ _ _ _ _ _ _ _ _ _ _ _ _ _ _ _ _ _ _ _ _ _ _ _ _ _ _ _ _ _ _ _ _ _ _ _ _ _ _ _ _ _ _ _ _ _ _ _ _ _ _ _ _ _ _ _ _ _ _ _ _ _ _ _ _ _ _ _ _ _ _ _ _ _ _ _ _ _ _ _ _ _ _ _ _ _ _ _ _ _ _ _ _ _ _ _ _ _ _ _ _ _ _ _ _ _ _ _ _ _ _ _ _ _ _ _ _ _ _ _ _ _ _ _ _ _ _ _ _ _ _ _ _ _ _ _ _ _ _ _ _ _ _ _ _ _ _ _ _ _ _ _ _ _ _ _ _ _ _ _ _ _ _ _ _ _ wb j (j - 2) (j - 15) (j - 7) (j - 16) v v2 v15 v7 v16 y w (Exit.then K Q) hj64 ?_ ?_ ?_ ?_ (by omega) (by omega) (by omega) (by omega) d2 d15 d7 d16 ev dw fr ?_
  · rw [IntKind.wrap_i64]; omega
  · rw [IntKind.wrap_i64]; omega
  · rw [IntKind.wrap_i64]; omega
  · rw [IntKind.wrap_i64]; omega
  · intro W x23 x24 x25 x26 x118 x119 x120 x121 x122 x123 x124 x125 x126 x127 x128 x129 x130 x131 x132 x133 x134 x135 x136 x137 x138 x139 x140 x141 x142 x143 x144 x145 x146 x147 x148 x149 x150 x151 x152 x153 x154 x155 x156 hW
    refine hK _ _ ?_
    have K5 : Kept (OneBlk wb) w W := by rw [hW]; exact ((Kept.refl _ w).setOne j _).drew
    have B5 : Blk W wb 79 ((ws.set j v).map UU).toArray := by
      rw [hW]
      have h := (Blk.set_ hb j (UU v)).drew
      rw [List.setIfInBounds_toArray] at h
      rw [List.map_set]
      exact h
    have ka5 := hks.kept K5 (fun e => hw0 e.symm)
    obtain ⟨kj, hkj⟩ := someI_at (s := ks) (k := j) (by rw [ka5.2.1]; exact hj)
    have dk : W.cell? ⟨0, j, none⟩ = some (.int .u32 kj) := ka5.2.2 j kj hkj
    have dv : W.cell? ⟨wb, j, none⟩ = some (.int .u32 v) := Blk.cellIs B5 (by rw [List.getElem?_toArray, List.getElem?_map, List.getElem?_set_self (by rw [hws]; exact hj)]; rfl)
    have ek : ks.getD j 0 = kj := getI_of hkj
    refine bgTail_wp _ _ _ _ _ _ _ _ _ _ _ _ _ _ _ _ _ _ _ _ _ _ _ _ _ _ _ _ _ _ _ _ _ _ _ _ _ _ _ _ _ _ _ _ _ _ _ _ _ _ _ _ _ _ _ _ _ _ _ _ _ _ _ _ _ _ _ _ _ _ _ _ _ _ _ _ _ _ _ _ _ _ _ _ _ _ _ _ _ _ _ _ _ _ _ _ _ _ _ _ _ _ _ _ _ _ _ _ _ _ _ _ _ _ _ _ _ _ _ _ _ _ _ _ _ _ _ _ _ _ _ _ _ _ _ _ _ _ _ _ _ _ _ _ _ _ _ _ _ _ _ _ _ _ _ _ _ _ _ _ _ _ _ _ _ _ _ _ _ _ _ _ _ _ _ _ _ _ _ _ _ _ _ _ _ _ _ _ _ _ _ _ _ _ _ _ _ _ _ _ _ _ _ _ _ _ _ _ _ _ _ _ _ _ _ _ _ _ _ _ _ _ _ _ _ _ _ _ _ _ _ _ _ _ _ _ _ _ _ _ _ _ _ _ _ _ _ _ _ _ _ _ _ _ _ _ _ _ _ _ _ _ _ _ _ _ _ _ _ _ _ _ _ wb j S.a S.b S.c S.d S.e S.f S.g S.h kj v W Q hj64 dk dv ?_
    intro m x27 x28 x157 x158 x159 x160 x161 x162 x163 x164 x165 x166 x167 x168 x169 x170 x171 x172 x173 x174 x175 x176 x177 x178 x179 x180 x181 x182 x183 x184 x185 x186 x187 x188 x189 x190 x191 x192 x193 x194 x195 x196 x197 x198 x199 x200 x201 x202 x203 x204 x205 x206 x207 x208 x209 x210 x211 x212 x213 x214 x215
    rw [ek] at HQ
    exact HQ.out (W.drewN m) _ _ _ _ _ _ _ _ _ _ _ _ _ _ _ _ _ _ _ _ _ _ _ _ _ _ _ _ _ _ _ _ _ _ _ _ _ _ _ _ _ _ _ _ _ _ _ _ _ _ _ _ _ _ _ _ _ _ _ _ _ _ _ _ _ _ _ _ _ _ _ _ _ _ _ _ _ _ _ _ _ _ _ _ _ _ _ _ _ _ _ _ _ _ _ _ _ _ _ _ _ _ _ _ _ _ _ _ _ _ _ _ _ _ _ _ _ _ _ _ _ _ _ _ _ _ _ _ _ _ _ _ _ _ _ _ _ _ _ _ _ (B5.drewN m) (K5.drewN m)

end Go.Proofs.Ytgkfnmmajehobaa
