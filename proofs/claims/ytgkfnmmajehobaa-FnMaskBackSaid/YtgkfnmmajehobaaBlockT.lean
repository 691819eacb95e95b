/-
  sha256.blockGeneric: its contract (printed by gen_bg6.py).
-/
import Derived.Test.YtgkfnmmajehobaaBlockG
import Derived.Test.YtgkfnmmajehobaaShaD
import Derived.Test.YtgkfnmmajehobaaBgEnd
namespace Go.Proofs.Ytgkfnmmajehobaa
open Go.RowKit

theorem DgAt.drew {w : World} {g : Nat} {h : Reg} {rest : List Value} (hd : DgAt w g h rest) : DgAt w.drew g h rest := hd
theorem put8 {w : World} {g : Nat} {h : Reg} {rest : List Value} (hd : DgAt w g h rest) (H : Reg) : DgAt (((((((((w.setCell ⟨g, 0, none⟩ (.int .u32 H.a)).setCell ⟨g, 1, none⟩ (.int .u32 H.b)).setCell ⟨g, 2, none⟩ (.int .u32 H.c)).setCell ⟨g, 3, none⟩ (.int .u32 H.d)).setCell ⟨g, 4, none⟩ (.int .u32 H.e)).setCell ⟨g, 5, none⟩ (.int .u32 H.f)).setCell ⟨g, 6, none⟩ (.int .u32 H.g)).setCell ⟨g, 7, none⟩ (.int .u32 H.h))) g H rest := by
  have h9 := ((((((((Blk.set_ hd 0 (UU H.a)).set_ 1 (UU H.b)).set_ 2 (UU H.c)).set_ 3 (UU H.d)).set_ 4 (UU H.e)).set_ 5 (UU H.f)).set_ 6 (UU H.g)).set_ 7 (UU H.h))
  simp only [List.setIfInBounds_toArray, List.cons_append, List.set_cons_zero, List.set_cons_succ] at h9
  exact h9

set_option maxHeartbeats 4000000 in
set_option maxRecDepth 100000 in
theorem blockG_any (g : Nat) (h : Reg) (rest : List Value) (ks : List Int) (A : Option Addr) (cap : Nat) (p : List UInt8) (w : World) (hd : DgAt w g h rest) (hk : KAt w ks) (hp : BytesAt w A p) (hA : ∀ a, A = some a → a.block < w.heap.size) (hc : p.length ≤ cap) :
    Calls Try.prog 39 #[.pointer (some ⟨g, 0, none⟩), .slice A p.length cap] w fun e w' => e = .returned (.tuple #[]) ∧ DgAt w' g (hsF (blkS ks) h p (p.length / 64)) rest ∧ Kept (OneBlk g) w w' := by
  obtain ⟨wb, hwb⟩ : ∃ wb, w.heap.size = wb := ⟨_, rfl⟩
  have hcb := Blk.new w 79 #[.int .u32 0, .int .u32 0, .int .u32 0, .int .u32 0, .int .u32 0, .int .u32 0, .int .u32 0, .int .u32 0, .int .u32 0, .int .u32 0, .int .u32 0, .int .u32 0, .int .u32 0, .int .u32 0, .int .u32 0, .int .u32 0, .int .u32 0, .int .u32 0, .int .u32 0, .int .u32 0, .int .u32 0, .int .u32 0, .int .u32 0, .int .u32 0, .int .u32 0, .int .u32 0, .int .u32 0, .int .u32 0, .int .u32 0, .int .u32 0, .int .u32 0, .int .u32 0, .int .u32 0, .int .u32 0, .int .u32 0, .int .u32 0, .int .u32 0, .int .u32 0, .int .u32 0, .int .u32 0, .int .u32 0, .int .u32 0, .int .u32 0, .int .u32 0, .int .u32 0, .int .u32 0, .int .u32 0, .int .u32 0, .int .u32 0, .int .u32 0, .int .u32 0, .int .u32 0, .int .u32 0, .int .u32 0, .int .u32 0, .int .u32 0, .int .u32 0, .int .u32 0, .int .u32 0, .int .u32 0, .int .u32 0, .int .u32 0, .int .u32 0, .int .u32 0]
  have k01 : Kept NoBlk w (w.alloc (.cells #[.int .u32 0, .int .u32 0, .int .u32 0, .int .u32 0, .int .u32 0, .int .u32 0, .int .u32 0, .int .u32 0, .int .u32 0, .int .u32 0, .int .u32 0, .int .u32 0, .int .u32 0, .int .u32 0, .int .u32 0, .int .u32 0, .int .u32 0, .int .u32 0, .int .u32 0, .int .u32 0, .int .u32 0, .int .u32 0, .int .u32 0, .int .u32 0, .int .u32 0, .int .u32 0, .int .u32 0, .int .u32 0, .int .u32 0, .int .u32 0, .int .u32 0, .int .u32 0, .int .u32 0, .int .u32 0, .int .u32 0, .int .u32 0, .int .u32 0, .int .u32 0, .int .u32 0, .int .u32 0, .int .u32 0, .int .u32 0, .int .u32 0, .int .u32 0, .int .u32 0, .int .u32 0, .int .u32 0, .int .u32 0, .int .u32 0, .int .u32 0, .int .u32 0, .int .u32 0, .int .u32 0, .int .u32 0, .int .u32 0, .int .u32 0, .int .u32 0, .int .u32 0, .int .u32 0, .int .u32 0, .int .u32 0, .int .u32 0, .int .u32 0, .int .u32 0] 79)) := (Kept.refl _ w).alloc _
  have hsz : (w.alloc (.cells #[.int .u32 0, .int .u32 0, .int .u32 0, .int .u32 0, .int .u32 0, .int .u32 0, .int .u32 0, .int .u32 0, .int .u32 0, .int .u32 0, .int .u32 0, .int .u32 0, .int .u32 0, .int .u32 0, .int .u32 0, .int .u32 0, .int .u32 0, .int .u32 0, .int .u32 0, .int .u32 0, .int .u32 0, .int .u32 0, .int .u32 0, .int .u32 0, .int .u32 0, .int .u32 0, .int .u32 0, .int .u32 0, .int .u32 0, .int .u32 0, .int .u32 0, .int .u32 0, .int .u32 0, .int .u32 0, .int .u32 0, .int .u32 0, .int .u32 0, .int .u32 0, .int .u32 0, .int .u32 0, .int .u32 0, .int .u32 0, .int .u32 0, .int .u32 0, .int .u32 0, .int .u32 0, .int .u32 0, .int .u32 0, .int .u32 0, .int .u32 0, .int .u32 0, .int .u32 0, .int .u32 0, .int .u32 0, .int .u32 0, .int .u32 0, .int .u32 0, .int .u32 0, .int .u32 0, .int .u32 0, .int .u32 0, .int .u32 0, .int .u32 0, .int .u32 0] 79)).heap.size = wb + 1 := by rw [← hwb]; simp
  obtain ⟨w1, hw1⟩ : ∃ w1, w.alloc (.cells #[.int .u32 0, .int .u32 0, .int .u32 0, .int .u32 0, .int .u32 0, .int .u32 0, .int .u32 0, .int .u32 0, .int .u32 0, .int .u32 0, .int .u32 0, .int .u32 0, .int .u32 0, .int .u32 0, .int .u32 0, .int .u32 0, .int .u32 0, .int .u32 0, .int .u32 0, .int .u32 0, .int .u32 0, .int .u32 0, .int .u32 0, .int .u32 0, .int .u32 0, .int .u32 0, .int .u32 0, .int .u32 0, .int .u32 0, .int .u32 0, .int .u32 0, .int .u32 0, .int .u32 0, .int .u32 0, .int .u32 0, .int .u32 0, .int .u32 0, .int .u32 0, .int .u32 0, .int .u32 0, .int .u32 0, .int .u32 0, .int .u32 0, .int .u32 0, .int .u32 0, .int .u32 0, .int .u32 0, .int .u32 0, .int .u32 0, .int .u32 0, .int .u32 0, .int .u32 0, .int .u32 0, .int .u32 0, .int .u32 0, .int .u32 0, .int .u32 0, .int .u32 0, .int .u32 0, .int .u32 0, .int .u32 0, .int .u32 0, .int .u32 0, .int .u32 0] 79) = w1 := ⟨_, rfl⟩
  rw [hw1] at hcb k01 hsz
  rw [hwb] at hcb
  have hgb : g < wb := by rw [← hwb]; exact Blk.lt hd
  have h0b : 0 < wb := by rw [← hwb]; exact hk.1
  have hcb2 : Blk w1 wb 79 ((List.replicate 64 (0 : Int)).map UU).toArray := hcb
  have hd1 : DgAt w1 g h rest := Blk.kept hd k01 (fun e => e)
  have hk1 := hk.kept k01 (fun e => e)
  have hp1 := hp.still k01
  have c0 : w1.cell? ⟨g, 0, none⟩ = some (.int .u32 h.a) := Blk.cellIs hd1 rfl
  have c1 : w1.cell? ⟨g, 1, none⟩ = some (.int .u32 h.b) := Blk.cellIs hd1 rfl
  have c2 : w1.cell? ⟨g, 2, none⟩ = some (.int .u32 h.c) := Blk.cellIs hd1 rfl
  have c3 : w1.cell? ⟨g, 3, none⟩ = some (.int .u32 h.d) := Blk.cellIs hd1 rfl
  have c4 : w1.cell? ⟨g, 4, none⟩ = some (.int .u32 h.e) := Blk.cellIs hd1 rfl
  have c5 : w1.cell? ⟨g, 5, none⟩ = some (.int .u32 h.f) := Blk.cellIs hd1 rfl
  have c6 : w1.cell? ⟨g, 6, none⟩ = some (.int .u32 h.g) := Blk.cellIs hd1 rfl
  have c7 : w1.cell? ⟨g, 7, none⟩ = some (.int .u32 h.h) := Blk.cellIs hd1 rfl
  have HCB := Lib.hid hcb2
  have HD1 := Lib.hid hd1
  have HK1 := Lib.hid hk1
  have HP1 := Lib.hid hp1
  have HA := Lib.hid hA
  have HN : Hid (g < wb ∧ 0 < wb ∧ w.heap.size = wb ∧ w1.heap.size = wb + 1) := Lib.hid ⟨hgb, h0b, hwb, hsz⟩
  have K01 := Lib.hid k01
  have HC := Lib.hid hc
  clear hcb hcb2 k01 hsz hgb h0b hd hd1 hk hk1 hp hp1 hA hc
  go_enter Try.func39, Try.ntmps39
  go_wp2_with fail
  go_quiet (fail)
  generalize hq : w1.drewN nq = W2
  have KQ : Hid (Kept NoBlk w1 W2) := Lib.hid (hq ▸ (Kept.refl NoBlk _).drewN _)
  clear hq hw1 c0 c1 c2 c3 c4 c5 c6 c7
  go_wp2_with fail
  refine bgOuter_loop _ _ _ _ _ _ _ _ _ _ _ _ _ _ _ _ _ _ _ _ _ _ _ _ _ _ _ _ _ _ _ _ _ _ _ _ _ _ _ _ _ _ _ _ _ _ _ _ _ _ _ _ _ _ _ _ _ _ _ _ _ _ _ _ _ _ _ _ _ _ _ _ _ _ _ _ _ _ _ _ _ _ _ _ _ _ _ _ _ _ _ _ _ _ _ _ _ _ _ _ _ _ _ _ _ _ _ _ _ _ _ _ _ _ _ _ _ _ _ _ _ _ _ _ _ _ _ _ _ _ _ _ _ _ _ _ _ _ _ _ _ _ _ _ _ _ _ _ _ _ _ _ _ _ _ _ _ _ _ _ _ _ _ _ _ _ _ _ _ _ _ _ _ _ _ _ _ _ _ _ _ _ _ _ _ _ _ _ _ _ _ _ _ _ _ _ _ _ _ _ _ _ _ _ _ _ _ _ _ _ _ _ _ _ _ _ _ _ _ _ _ _ _ _ _ _ _ _ _ _ _ _ _ _ _ _ _ _ _ _ _ _ _ _ _ _ _ _ _ _ _ _ _ _ _ _ _ _ _ _ _ _ _ _ _ _ _ _ _ _ _ _ _ A wb cap h ks (List.replicate 64 0) p W2 _ HC.out (HK1.out.kept KQ.out (fun e => e)) rfl (HCB.out.kept KQ.out (fun e => e)) (HP1.out.still KQ.out) (fun a e => by rw [← HN.out.2.2.1]; exact HA.out a e) (by have := HN.out; omega) (by have := HN.out; have := KQ.out.size; omega) ?_
  intro W pv x13 x14 x15 x16 x17 x18 x19 x20 x21 x22 x23 x24 x25 x26 x27 x28 x69 x70 x71 x72 x73 x74 x75 x76 x77 x78 x79 x80 x81 x82 x83 x84 x85 x86 x87 x88 x89 x90 x91 x92 x93 x94 x95 x96 x97 x98 x99 x100 x101 x102 x103 x104 x105 x106 x107 x108 x109 x110 x111 x112 x113 x114 x115 x116 x117 x118 x119 x120 x121 x122 x123 x124 x125 x126 x127 x128 x129 x130 x131 x132 x133 x134 x135 x136 x137 x138 x139 x140 x141 x142 x143 x144 x145 x146 x147 x148 x149 x150 x151 x152 x153 x154 x155 x156 x157 x158 x159 x160 x161 x162 x163 x164 x165 x166 x167 x168 x169 x170 x171 x172 x173 x174 x175 x176 x177 x178 x179 x180 x181 x182 x183 x184 x185 x186 x187 x188 x189 x190 x191 x192 x193 x194 x195 x196 x197 x198 x199 x200 x201 x202 x203 x204 x205 x206 x207 x208 x209 x210 x211 x212 x213 x214 x215 x216 x217 x218 x219 x220 x221 x222 x223 x224 x225 x226 x227 x228 x229 x230 x231 x232 x233 x234 x235 x236 x237 x238 x239 x240 x241 x242 hK
  rename_i K hKK
  refine hKK _ _ ?_
  clear hKK
  obtain ⟨H', hH'⟩ : ∃ H', hsF (blkS ks) h p (p.length / 64) = H' := ⟨_, rfl⟩
  rw [hH']
  have hd2 : DgAt W g h rest := (HD1.out.kept KQ.out (fun e => e)).kept hK (fun e => by have : g = wb := e; have := HN.out; omega)
  have c0 : W.cell? ⟨g, 0, none⟩ = some (.int .u32 h.a) := Blk.cellIs hd2 rfl
  have fr0 : W.frozen? ⟨g, 0, none⟩ = false := Blk.frozen hd2 0
  have c1 : W.cell? ⟨g, 1, none⟩ = some (.int .u32 h.b) := Blk.cellIs hd2 rfl
  have fr1 : W.frozen? ⟨g, 1, none⟩ = false := Blk.frozen hd2 1
  have c2 : W.cell? ⟨g, 2, none⟩ = some (.int .u32 h.c) := Blk.cellIs hd2 rfl
  have fr2 : W.frozen? ⟨g, 2, none⟩ = false := Blk.frozen hd2 2
  have c3 : W.cell? ⟨g, 3, none⟩ = some (.int .u32 h.d) := Blk.cellIs hd2 rfl
  have fr3 : W.frozen? ⟨g, 3, none⟩ = false := Blk.frozen hd2 3
  have c4 : W.cell? ⟨g, 4, none⟩ = some (.int .u32 h.e) := Blk.cellIs hd2 rfl
  have fr4 : W.frozen? ⟨g, 4, none⟩ = false := Blk.frozen hd2 4
  have c5 : W.cell? ⟨g, 5, none⟩ = some (.int .u32 h.f) := Blk.cellIs hd2 rfl
  have fr5 : W.frozen? ⟨g, 5, none⟩ = false := Blk.frozen hd2 5
  have c6 : W.cell? ⟨g, 6, none⟩ = some (.int .u32 h.g) := Blk.cellIs hd2 rfl
  have fr6 : W.frozen? ⟨g, 6, none⟩ = false := Blk.frozen hd2 6
  have c7 : W.cell? ⟨g, 7, none⟩ = some (.int .u32 h.h) := Blk.cellIs hd2 rfl
  have fr7 : W.frozen? ⟨g, 7, none⟩ = false := Blk.frozen hd2 7
  have ND := Lib.hid hd2
  have HH := Lib.hid hH'
  clear hd2 hH'
  refine bgEnd_wp _ _ _ _ _ _ _ _ _ _ _ _ _ _ _ _ _ _ _ _ _ _ _ _ _ _ _ _ _ _ _ _ _ _ _ _ _ _ _ _ _ _ _ _ _ _ _ _ _ _ _ _ _ _ _ _ _ _ _ _ _ _ _ _ _ _ _ _ _ _ _ _ _ _ _ _ _ _ _ _ _ _ _ _ _ _ _ _ _ _ _ _ _ _ _ _ _ _ _ _ _ _ _ _ _ _ _ _ _ _ _ _ _ _ _ _ _ _ _ _ _ _ _ _ _ _ _ _ _ _ _ _ _ _ _ _ _ _ _ _ _ _ _ _ _ _ _ _ _ _ _ _ _ _ _ _ _ _ _ _ _ _ _ _ _ _ _ _ _ _ _ _ _ _ _ _ _ _ _ _ _ _ _ _ _ _ _ _ _ _ _ _ _ _ _ _ _ _ _ _ _ _ _ _ _ _ _ _ _ _ _ _ _ _ _ _ _ _ _ _ _ _ _ _ _ _ _ _ _ _ _ _ _ _ _ _ _ _ _ _ _ _ _ _ _ _ _ _ _ _ _ _ _ _ _ _ _ _ _ _ _ _ _ _ _ _ _ _ _ _ _ _ _ _ g h H' W _ c0 fr0 c1 fr1 c2 fr2 c3 fr3 c4 fr4 c5 fr5 c6 fr6 c7 fr7 ?_
  have hd9 := put8 ND.out H'
  have k1 : Kept (OneBlk g) w W := ((K01.out.none KQ.out).fresh hK (by have := HN.out; omega)).mono (fun _ _ e => e.elim)
  have k9 := ((((((((k1.setOne 0 (.int .u32 H'.a)).setOne 1 (.int .u32 H'.b)).setOne 2 (.int .u32 H'.c)).setOne 3 (.int .u32 H'.d)).setOne 4 (.int .u32 H'.e)).setOne 5 (.int .u32 H'.f)).setOne 6 (.int .u32 H'.g)).setOne 7 (.int .u32 H'.h))
  have hh := HH.out
  clear HH
  rintro W2 (rfl | rfl)
  · rw [hh]
    refine ⟨rfl, ?_, ?_⟩
    · with_reducible exact hd9
    · with_reducible exact k9
  · rw [hh]
    refine ⟨rfl, ?_, ?_⟩
    · with_reducible exact DgAt.drew hd9
    · with_reducible exact Kept.drew k9

end Go.Proofs.Ytgkfnmmajehobaa
