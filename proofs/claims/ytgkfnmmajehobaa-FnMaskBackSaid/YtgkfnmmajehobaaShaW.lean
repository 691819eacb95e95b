/-
  sha256.Digest.Write: its parts (printed by gen_shaw.py).
-/
import Derived.Test.YtgkfnmmajehobaaShaBl
import Derived.BigRegion
import Derived.BigQuiet
import Derived.Deep.QuietTactic
namespace Go.Proofs.Ytgkfnmmajehobaa
open Go.RowKit

noncomputable def shR0 : Code := (cl (Try.f34.body.getD .skip))
noncomputable def shR1 : Code := (cl (cr (Try.f34.body.getD .skip)))
noncomputable def shR2 : Code := (cl (cr (cr (Try.f34.body.getD .skip))))
noncomputable def shP1 : Code := (cl (cr (cr (cr (Try.f34.body.getD .skip)))))
noncomputable def shP2 : Code := (cl (cr (cr (cr (cr (Try.f34.body.getD .skip))))))
noncomputable def shP3 : Code := (cl (cr (cr (cr (cr (cr (Try.f34.body.getD .skip)))))))
theorem shBody_eq : Try.f34.body = some (.seq shR0 (.seq shR1 (.seq shR2 (.seq shP1 (.seq shP2 (.seq shP3 .ret)))))) := by kernel_rfl

set_option maxHeartbeats 4000000 in
set_option maxRecDepth 100000 in
theorem shP3_none (u0 u2 u3 u4 u5 u6 u7 u8 u9 u10 u11 u12 u13 u14 u15 u16 u17 u18 u19 u20 u21 u22 u23 u24 u25 u26 u27 u28 u29 u30 u31 u32 u33 u34 u35 u36 u37 u38 u39 u40 u41 u42 u43 u44 u45 u46 u47 u48 u49 u50 u51 u52 u53 u54 u55 u56 u57 u58 u59 u60 u61 u62 u63 u64 u65 u66 u67 u68 u69 u70 u71 u72 u73 u74 u75 u76 u77 u78 u79 u80 u81 u82 u83 u84 u85 u86 u87 u88 u89 u90 u91 u92 u93 u94 : Value) (A : Option Addr) (c : Nat) (w : World) (Q : Exit → Act → World → Prop) (hQ : ∀ (x83 x84 x85 : Value), Q .normal ⟨#[u0, .slice A 0 c, u2, u3, u4, u5, u6, u7, u8, u9, u10, u11, u12, u13, u14, u15, u16, u17, u18, u19, u20, u21, u22, u23, u24, u25, u26, u27, u28, u29, u30, u31, u32, u33, u34, u35, u36, u37, u38, u39, u40, u41, u42, u43, u44, u45, u46, u47, u48, u49, u50, u51, u52, u53, u54, u55, u56, u57, u58, u59, u60, u61, u62, u63, u64, u65, u66, u67, u68, u69, u70, u71, u72, u73, u74, u75, u76, u77, u78, u79, u80, u81, u82, x83, x84, x85, u86, u87, u88, u89, u90, u91, u92, u93, u94], []⟩ w) :
    shP3.wp Try.prog Q ⟨#[u0, .slice A 0 c, u2, u3, u4, u5, u6, u7, u8, u9, u10, u11, u12, u13, u14, u15, u16, u17, u18, u19, u20, u21, u22, u23, u24, u25, u26, u27, u28, u29, u30, u31, u32, u33, u34, u35, u36, u37, u38, u39, u40, u41, u42, u43, u44, u45, u46, u47, u48, u49, u50, u51, u52, u53, u54, u55, u56, u57, u58, u59, u60, u61, u62, u63, u64, u65, u66, u67, u68, u69, u70, u71, u72, u73, u74, u75, u76, u77, u78, u79, u80, u81, u82, u83, u84, u85, u86, u87, u88, u89, u90, u91, u92, u93, u94], []⟩ w := by
  have HQ := Lib.hid hQ
  clear hQ
  conv => arg 2; whnf
  go_wp2_with fail
  exact HQ.out _ _ _

set_option maxHeartbeats 4000000 in
set_option maxRecDepth 100000 in
theorem shP3_some (u2 u3 u4 u5 u6 u7 u8 u9 u10 u11 u12 u13 u14 u15 u16 u17 u18 u19 u20 u21 u22 u23 u24 u25 u26 u27 u28 u29 u30 u31 u32 u33 u34 u35 u36 u37 u38 u39 u40 u41 u42 u43 u44 u45 u46 u47 u48 u49 u50 u51 u52 u53 u54 u55 u56 u57 u58 u59 u60 u61 u62 u63 u64 u65 u66 u67 u68 u69 u70 u71 u72 u73 u74 u75 u76 u77 u78 u79 u80 u81 u82 u83 u84 u85 u86 u87 u88 u89 u90 u91 u92 u93 u94 : Value) (g : Nat) (A : Option Addr) (c : Nat) (h : Reg) (x p : List UInt8) (nx len : Int) (s : Bool) (w : World) (Q : Exit → Act → World → Prop) (hd : DgAt w g h (DgR x nx len s)) (hx : x.length = 64) (hp : BytesAt w A p) (hp0 : 0 < p.length) (hp1 : p.length < 64)
    (hQ : ∀ (W : World) (x83 x84 x85 x86 x87 x88 x89 x90 x91 x92 x93 x94 : Value), DgAt W g h (DgR (splice x 0 p) p.length len s) → Kept (OneBlk g) w W → Q .normal ⟨#[.pointer (some ⟨g, 0, none⟩), .slice A p.length c, u2, u3, u4, u5, u6, u7, u8, u9, u10, u11, u12, u13, u14, u15, u16, u17, u18, u19, u20, u21, u22, u23, u24, u25, u26, u27, u28, u29, u30, u31, u32, u33, u34, u35, u36, u37, u38, u39, u40, u41, u42, u43, u44, u45, u46, u47, u48, u49, u50, u51, u52, u53, u54, u55, u56, u57, u58, u59, u60, u61, u62, u63, u64, u65, u66, u67, u68, u69, u70, u71, u72, u73, u74, u75, u76, u77, u78, u79, u80, u81, u82, x83, x84, x85, x86, x87, x88, x89, x90, x91, x92, x93, x94], []⟩ W) :
    shP3.wp Try.prog Q ⟨#[.pointer (some ⟨g, 0, none⟩), .slice A p.length c, u2, u3, u4, u5, u6, u7, u8, u9, u10, u11, u12, u13, u14, u15, u16, u17, u18, u19, u20, u21, u22, u23, u24, u25, u26, u27, u28, u29, u30, u31, u32, u33, u34, u35, u36, u37, u38, u39, u40, u41, u42, u43, u44, u45, u46, u47, u48, u49, u50, u51, u52, u53, u54, u55, u56, u57, u58, u59, u60, u61, u62, u63, u64, u65, u66, u67, u68, u69, u70, u71, u72, u73, u74, u75, u76, u77, u78, u79, u80, u81, u82, u83, u84, u85, u86, u87, u88, u89, u90, u91, u92, u93, u94], []⟩ w := by
  have HQ := Lib.hid hQ
  obtain ⟨n, hn⟩ : ∃ n, p.length = n := ⟨_, rfl⟩
  obtain ⟨W1, hrun, hb1, k1⟩ := run_copy_bytes w 3 (some ⟨g, 8, none⟩) A 64 64 n c g 8 (DgL h (DgR x nx len s)) 54 hd p hp hn.symm n (by omega) (fun _ => rfl) (by rw [dgL_length, dgR_length hx]; omega)
  have hxl : (splice x 0 p).length = 64 := by rw [splice_len x p 0 (by omega)]; exact hx
  have hd1 : DgAt W1 g h (DgR (splice x 0 p) nx len s) := by
    rw [List.take_of_length_le (by omega), dgL_splice h x p nx len s hx 0 (by omega)] at hb1
    exact hb1
  have c72 := hd1.nxC hxl
  have f72 := Blk.frozen hd1 72
  have FIN : Hid (DgAt (W1.setCell ⟨g, 72, none⟩ (.int .i64 (n : Int))) g h (DgR (splice x 0 p) n len s) ∧ Kept (OneBlk g) w (W1.setCell ⟨g, 72, none⟩ (.int .i64 (n : Int)))) := Lib.hid ⟨hd1.setNx hxl _, k1.setOne 72 _⟩
  have hn0 : (0 : Int) < (n : Int) := by omega
  rw [hn] at HQ ⊢
  clear hQ hd hp hb1 k1 hd1 hxl
  conv => arg 2; whnf
  go_wp2_with fail
  exact HQ.out _ _ _ _ _ _ _ _ _ _ _ _ _ FIN.out.1 FIN.out.2

set_option maxHeartbeats 4000000 in
set_option maxRecDepth 100000 in
theorem shP2_short (u0 u2 u3 u4 u5 u6 u7 u8 u9 u10 u11 u12 u13 u14 u15 u16 u17 u18 u19 u20 u21 u22 u23 u24 u25 u26 u27 u28 u29 u30 u31 u32 u33 u34 u35 u36 u37 u38 u39 u40 u41 u42 u43 u44 u45 u46 u47 u48 u49 u50 u51 u52 u53 u54 u55 u56 u57 u58 u59 u60 u61 u62 u63 u64 u65 u66 u67 u68 u69 u70 u71 u72 u73 u74 u75 u76 u77 u78 u79 u80 u81 u82 u83 u84 u85 u86 u87 u88 u89 u90 u91 u92 u93 u94 : Value) (A : Option Addr) (n c : Nat) (w : World) (Q : Exit → Act → World → Prop) (hn : n < 64) (hQ : ∀ (x59 x60 x61 : Value), Q .normal ⟨#[u0, .slice A n c, u2, u3, u4, u5, u6, u7, u8, u9, u10, u11, u12, u13, u14, u15, u16, u17, u18, u19, u20, u21, u22, u23, u24, u25, u26, u27, u28, u29, u30, u31, u32, u33, u34, u35, u36, u37, u38, u39, u40, u41, u42, u43, u44, u45, u46, u47, u48, u49, u50, u51, u52, u53, u54, u55, u56, u57, u58, x59, x60, x61, u62, u63, u64, u65, u66, u67, u68, u69, u70, u71, u72, u73, u74, u75, u76, u77, u78, u79, u80, u81, u82, u83, u84, u85, u86, u87, u88, u89, u90, u91, u92, u93, u94], []⟩ w) :
    shP2.wp Try.prog Q ⟨#[u0, .slice A n c, u2, u3, u4, u5, u6, u7, u8, u9, u10, u11, u12, u13, u14, u15, u16, u17, u18, u19, u20, u21, u22, u23, u24, u25, u26, u27, u28, u29, u30, u31, u32, u33, u34, u35, u36, u37, u38, u39, u40, u41, u42, u43, u44, u45, u46, u47, u48, u49, u50, u51, u52, u53, u54, u55, u56, u57, u58, u59, u60, u61, u62, u63, u64, u65, u66, u67, u68, u69, u70, u71, u72, u73, u74, u75, u76, u77, u78, u79, u80, u81, u82, u83, u84, u85, u86, u87, u88, u89, u90, u91, u92, u93, u94], []⟩ w := by
  have HQ := Lib.hid hQ
  have h64 : ¬ (64 : Int) ≤ (n : Int) := by omega
  clear hQ
  conv => arg 2; whnf
  go_wp2_with fail
  exact HQ.out _ _ _

set_option maxHeartbeats 4000000 in
set_option maxRecDepth 100000 in
theorem shP2_long (u2 u3 u4 u5 u6 u7 u8 u9 u10 u11 u12 u13 u14 u15 u16 u17 u18 u19 u20 u21 u22 u23 u24 u25 u26 u27 u28 u29 u30 u31 u32 u33 u34 u35 u36 u37 u38 u39 u40 u41 u42 u43 u44 u45 u46 u47 u48 u49 u50 u51 u52 u53 u54 u55 u56 u57 u58 u59 u60 u61 u62 u63 u64 u65 u66 u67 u68 u69 u70 u71 u72 u73 u74 u75 u76 u77 u78 u79 u80 u81 u82 u83 u84 u85 u86 u87 u88 u89 u90 u91 u92 u93 u94 : Value) (g n m c : Nat) (A : Option Addr) (h : Reg) (rest : List Value) (p : List UInt8) (ks : List Int) (w : World) (Q : Exit → Act → World → Prop) (hd : DgAt w g h rest) (hk : KAt w ks) (hp : BytesAt w A p) (hA : ∀ a, A = some a → a.block < w.heap.size) (hpn : p.length = n) (hnc : n ≤ c) (hn : 64 ≤ n) (hn2 : n ≤ 65536) (hm : m = 64 * (n / 64))
    (hQ : ∀ (W : World) (x7 x59 x60 x61 x62 x63 x64 x65 x66 x67 x68 x69 x70 x71 x72 x73 x74 x75 x76 x77 x78 x79 x80 x81 x82 : Value) (A2 : Option Addr) (c2 : Nat), n - m ≤ c2 → BytesAt w A2 (p.drop m) → (∀ a, A2 = some a → ∃ b, A = some b ∧ a.block = b.block) → DgAt W g (hsF (blkS ks) h p (n / 64)) rest → Kept (OneBlk g) w W → Q .normal ⟨#[.pointer (some ⟨g, 0, none⟩), .slice A2 (n - m) c2, u2, u3, u4, u5, u6, x7, u8, u9, u10, u11, u12, u13, u14, u15, u16, u17, u18, u19, u20, u21, u22, u23, u24, u25, u26, u27, u28, u29, u30, u31, u32, u33, u34, u35, u36, u37, u38, u39, u40, u41, u42, u43, u44, u45, u46, u47, u48, u49, u50, u51, u52, u53, u54, u55, u56, u57, u58, x59, x60, x61, x62, x63, x64, x65, x66, x67, x68, x69, x70, x71, x72, x73, x74, x75, x76, x77, x78, x79, x80, x81, x82, u83, u84, u85, u86, u87, u88, u89, u90, u91, u92, u93, u94], []⟩ W) :
    shP2.wp Try.prog Q ⟨#[.pointer (some ⟨g, 0, none⟩), .slice A n c, u2, u3, u4, u5, u6, u7, u8, u9, u10, u11, u12, u13, u14, u15, u16, u17, u18, u19, u20, u21, u22, u23, u24, u25, u26, u27, u28, u29, u30, u31, u32, u33, u34, u35, u36, u37, u38, u39, u40, u41, u42, u43, u44, u45, u46, u47, u48, u49, u50, u51, u52, u53, u54, u55, u56, u57, u58, u59, u60, u61, u62, u63, u64, u65, u66, u67, u68, u69, u70, u71, u72, u73, u74, u75, u76, u77, u78, u79, u80, u81, u82, u83, u84, u85, u86, u87, u88, u89, u90, u91, u92, u93, u94], []⟩ w := by
  have HQ := Lib.hid hQ
  obtain ⟨bb, off, rfl, hbl, hcell⟩ := BytesAt.at_ hp (k := 0) (by omega)
  have hlt : (p.take m).length = m := by rw [List.length_take]; omega
  have hpt : BytesAt w (some ⟨bb, off, none⟩) (p.take m) := by
    have := At.take hp m
    rw [← List.map_take] at this
    exact this
  have hb := block_any g h rest ks (some ⟨bb, off, none⟩) c (p.take m) w hd hk hpt hA (by omega)
  rw [hlt, show m / 64 = n / 64 by omega, ← hsF_append (blkS ks) h (p.take m) (p.drop m) (n / 64) (by rw [hlt]; omega), List.take_append_drop] at hb
  have hat : BytesAt w (some ⟨bb, off + m, none⟩) (p.drop m) := by
    have := At.drop hp m (by rw [List.length_map]; omega)
    rw [← List.map_drop] at this
    exact this
  have hmt : n - m = 0 → p.drop m = [] := fun h0 => List.drop_eq_nil_of_le (by omega)
  have e1 := andNot63 n (by omega)
  rw [← hm] at e1
  have HB := Lib.hid hb
  have HAT := Lib.hid hat
  have HMT := Lib.hid hmt
  have h64 : (64 : Int) ≤ (n : Int) := by omega
  have hm2 : ¬ (65536 : Int) < (m : Int) := by omega
  have hmn : m ≤ n := by omega
  clear hQ hd hk hp hA hpn hcell hb hat hpt hlt hmt hm hbl
  conv => arg 2; whnf
  go_wp2_with fail
  go_loopw [1, 7] (fun pv v wr => pv = .slice (some ⟨bb, off, none⟩) n c ∧ v = .int .i64 (m : Int) ∧ wr = w) (fun _ _ _ => 0)
  case atStart => exact ⟨rfl, rfl, rfl⟩
  case round =>
    obtain ⟨rfl, rfl, rfl⟩ := hrel
    go_wp2_with fail
    refine HB.out.mono ?_
    rintro e w1 ⟨rfl, h1⟩
    have FIN := Lib.hid h1
    clear h1
    go_wp2_with fail
    · exact HQ.out w1 _ _ _ _ _ _ _ _ _ _ _ _ _ _ _ _ _ _ _ _ _ _ _ _ _ _ 0 (by omega) (by rw [HMT.out (by omega)]; exact BytesAt.nil _ _) (fun a e => ⟨_, rfl, by cases e; rfl⟩) FIN.out.1 FIN.out.2
    · exact HQ.out w1 _ _ _ _ _ _ _ _ _ _ _ _ _ _ _ _ _ _ _ _ _ _ _ _ _ _ _ (by omega) HAT.out (fun a e => ⟨_, rfl, by cases e; rfl⟩) FIN.out.1 FIN.out.2

set_option maxHeartbeats 4000000 in
set_option maxRecDepth 100000 in
theorem shP1_skip (u1 u2 u3 u4 u5 u6 u7 u8 u9 u10 u11 u12 u13 u14 u15 u16 u17 u18 u19 u20 u21 u22 u23 u24 u25 u26 u27 u28 u29 u30 u31 u32 u33 u34 u35 u36 u37 u38 u39 u40 u41 u42 u43 u44 u45 u46 u47 u48 u49 u50 u51 u52 u53 u54 u55 u56 u57 u58 u59 u60 u61 u62 u63 u64 u65 u66 u67 u68 u69 u70 u71 u72 u73 u74 u75 u76 u77 u78 u79 u80 u81 u82 u83 u84 u85 u86 u87 u88 u89 u90 u91 u92 u93 u94 : Value) (g : Nat) (w : World) (Q : Exit → Act → World → Prop) (_c72 : w.cell? ⟨g, 72, none⟩ = some (.int .i64 0)) (hQ : ∀ (x19 x20 x21 x22 x23 : Value), Q .normal ⟨#[.pointer (some ⟨g, 0, none⟩), u1, u2, u3, u4, u5, u6, u7, u8, u9, u10, u11, u12, u13, u14, u15, u16, u17, u18, x19, x20, x21, x22, x23, u24, u25, u26, u27, u28, u29, u30, u31, u32, u33, u34, u35, u36, u37, u38, u39, u40, u41, u42, u43, u44, u45, u46, u47, u48, u49, u50, u51, u52, u53, u54, u55, u56, u57, u58, u59, u60, u61, u62, u63, u64, u65, u66, u67, u68, u69, u70, u71, u72, u73, u74, u75, u76, u77, u78, u79, u80, u81, u82, u83, u84, u85, u86, u87, u88, u89, u90, u91, u92, u93, u94], []⟩ w) :
    shP1.wp Try.prog Q ⟨#[.pointer (some ⟨g, 0, none⟩), u1, u2, u3, u4, u5, u6, u7, u8, u9, u10, u11, u12, u13, u14, u15, u16, u17, u18, u19, u20, u21, u22, u23, u24, u25, u26, u27, u28, u29, u30, u31, u32, u33, u34, u35, u36, u37, u38, u39, u40, u41, u42, u43, u44, u45, u46, u47, u48, u49, u50, u51, u52, u53, u54, u55, u56, u57, u58, u59, u60, u61, u62, u63, u64, u65, u66, u67, u68, u69, u70, u71, u72, u73, u74, u75, u76, u77, u78, u79, u80, u81, u82, u83, u84, u85, u86, u87, u88, u89, u90, u91, u92, u93, u94], []⟩ w := by
  have HQ := Lib.hid hQ
  clear hQ
  conv => arg 2; whnf
  go_wp2_with fail
  exact HQ.out _ _ _ _ _

set_option maxHeartbeats 4000000 in
set_option maxRecDepth 100000 in
theorem shP1_part (u2 u3 u4 u5 u6 u7 u8 u9 u10 u11 u12 u13 u14 u15 u16 u17 u18 u19 u20 u21 u22 u23 u24 u25 u26 u27 u28 u29 u30 u31 u32 u33 u34 u35 u36 u37 u38 u39 u40 u41 u42 u43 u44 u45 u46 u47 u48 u49 u50 u51 u52 u53 u54 u55 u56 u57 u58 u59 u60 u61 u62 u63 u64 u65 u66 u67 u68 u69 u70 u71 u72 u73 u74 u75 u76 u77 u78 u79 u80 u81 u82 u83 u84 u85 u86 u87 u88 u89 u90 u91 u92 u93 u94 : Value) (g n c nx : Nat) (A : Option Addr) (h : Reg) (x p : List UInt8) (len : Int) (s : Bool) (w : World) (Q : Exit → Act → World → Prop) (hd : DgAt w g h (DgR x nx len s)) (hx : x.length = 64) (hp : BytesAt w A p) (hpn : p.length = n) (hnc : n ≤ c) (hnx : 0 < nx) (hsm : nx + n < 64)
    (hQ : ∀ (W : World) (x6 x19 x20 x21 x22 x23 x24 x25 x26 x27 x28 x29 x30 x31 x32 x33 x34 x35 x36 x37 x38 x39 x40 x41 x42 x43 x44 x45 x46 x47 x48 x49 x50 x51 x52 x53 x54 x55 x56 x57 x58 : Value) (A2 : Option Addr) (c2 : Nat), DgAt W g h (DgR (splice x nx p) ((nx + n : Nat) : Int) len s) → Kept (OneBlk g) w W → Q .normal ⟨#[.pointer (some ⟨g, 0, none⟩), .slice A2 0 c2, u2, u3, u4, u5, x6, u7, u8, u9, u10, u11, u12, u13, u14, u15, u16, u17, u18, x19, x20, x21, x22, x23, x24, x25, x26, x27, x28, x29, x30, x31, x32, x33, x34, x35, x36, x37, x38, x39, x40, x41, x42, x43, x44, x45, x46, x47, x48, x49, x50, x51, x52, x53, x54, x55, x56, x57, x58, u59, u60, u61, u62, u63, u64, u65, u66, u67, u68, u69, u70, u71, u72, u73, u74, u75, u76, u77, u78, u79, u80, u81, u82, u83, u84, u85, u86, u87, u88, u89, u90, u91, u92, u93, u94], []⟩ W) :
    shP1.wp Try.prog Q ⟨#[.pointer (some ⟨g, 0, none⟩), .slice A n c, u2, u3, u4, u5, u6, u7, u8, u9, u10, u11, u12, u13, u14, u15, u16, u17, u18, u19, u20, u21, u22, u23, u24, u25, u26, u27, u28, u29, u30, u31, u32, u33, u34, u35, u36, u37, u38, u39, u40, u41, u42, u43, u44, u45, u46, u47, u48, u49, u50, u51, u52, u53, u54, u55, u56, u57, u58, u59, u60, u61, u62, u63, u64, u65, u66, u67, u68, u69, u70, u71, u72, u73, u74, u75, u76, u77, u78, u79, u80, u81, u82, u83, u84, u85, u86, u87, u88, u89, u90, u91, u92, u93, u94], []⟩ w := by
  have HQ := Lib.hid hQ
  obtain ⟨W1, hrun, hb1, k1⟩ := run_copy_bytes w.drew 3 (some ⟨g, 8 + nx, none⟩) A (64 - nx) (64 - nx) n c g (8 + nx) (DgL h (DgR x nx len s)) 54 hd p (hp.still (Kept.refl NoBlk w).drew) hpn.symm n (by omega) (fun _ => rfl) (by rw [dgL_length, dgR_length hx]; omega)
  have c72 := hd.nxC hx
  have hxl : (splice x nx p).length = 64 := by rw [splice_len x p nx (by omega)]; exact hx
  have hd1 : DgAt W1 g h (DgR (splice x nx p) nx len s) := by
    rw [List.take_of_length_le (by omega), dgL_splice h x p nx len s hx nx (by omega)] at hb1
    exact hb1
  have d72 := hd1.nxC hxl
  have f72 := Blk.frozen hd1 72
  have ew : IntKind.i64.wrap ((nx : Int) + (n : Int)) = ((nx + n : Nat) : Int) := by rw [IntKind.wrap_i64]; omega
  have FIN : Hid (DgAt (W1.setCell ⟨g, 72, none⟩ (.int .i64 ((nx + n : Nat) : Int))) g h (DgR (splice x nx p) ((nx + n : Nat) : Int) len s) ∧ Kept (OneBlk g) w (W1.setCell ⟨g, 72, none⟩ (.int .i64 ((nx + n : Nat) : Int)))) := Lib.hid ⟨hd1.setNx hxl _, ((Kept.refl _ w).drew.trans k1).setOne 72 _⟩
  obtain ⟨t, ht⟩ : ∃ t, nx + n = t := ⟨_, rfl⟩
  rw [ht] at HQ ew FIN
  have h64 : ((t : Int) == 64) = false := by rw [beq_eq_false_iff_ne]; omega
  have hnx0 : (0 : Int) < (nx : Int) := by omega
  have hnx64 : (nx : Int) ≤ 64 := by omega
  clear hQ hd hp hb1 k1 hd1 hxl hpn
  conv => arg 2; whnf
  go_wp2_with fail
  go_region
  all_goals (go_wp2_with fail)
  all_goals exact HQ.out _ _ _ _ _ _ _ _ _ _ _ _ _ _ _ _ _ _ _ _ _ _ _ _ _ _ _ _ _ _ _ _ _ _ _ _ _ _ _ _ _ _ _ _ FIN.out.1 FIN.out.2

set_option maxHeartbeats 4000000 in
set_option maxRecDepth 100000 in
theorem shP1_fill (u2 u3 u4 u5 u6 u7 u8 u9 u10 u11 u12 u13 u14 u15 u16 u17 u18 u19 u20 u21 u22 u23 u24 u25 u26 u27 u28 u29 u30 u31 u32 u33 u34 u35 u36 u37 u38 u39 u40 u41 u42 u43 u44 u45 u46 u47 u48 u49 u50 u51 u52 u53 u54 u55 u56 u57 u58 u59 u60 u61 u62 u63 u64 u65 u66 u67 u68 u69 u70 u71 u72 u73 u74 u75 u76 u77 u78 u79 u80 u81 u82 u83 u84 u85 u86 u87 u88 u89 u90 u91 u92 u93 u94 : Value) (g n c nx k : Nat) (A : Option Addr) (h : Reg) (x p : List UInt8) (len : Int) (s : Bool) (ks : List Int) (w : World) (Q : Exit → Act → World → Prop) (hd : DgAt w g h (DgR x nx len s)) (hx : x.length = 64) (hk : KAt w ks) (hg0 : g ≠ 0) (hp : BytesAt w A p) (hA : ∀ a, A = some a → a.block ≠ g) (hpn : p.length = n) (hnc : n ≤ c) (hnx : 0 < nx) (hk1 : nx + k = 64) (hkn : k ≤ n) (hk0 : 0 < k)
    (hQ : ∀ (W : World) (x6 x19 x20 x21 x22 x23 x24 x25 x26 x27 x28 x29 x30 x31 x32 x33 x34 x35 x36 x37 x38 x39 x40 x41 x42 x43 x44 x45 x46 x47 x48 x49 x50 x51 x52 x53 x54 x55 x56 x57 x58 : Value) (A2 : Option Addr) (c2 : Nat), n - k ≤ c2 → BytesAt W A2 (p.drop k) → (∀ a, A2 = some a → a.block ≠ g) → DgAt W g (blkS ks h (splice x nx (p.take k))) (DgR (splice x nx (p.take k)) 0 len s) → Kept (OneBlk g) w W → Q .normal ⟨#[.pointer (some ⟨g, 0, none⟩), .slice A2 (n - k) c2, u2, u3, u4, u5, x6, u7, u8, u9, u10, u11, u12, u13, u14, u15, u16, u17, u18, x19, x20, x21, x22, x23, x24, x25, x26, x27, x28, x29, x30, x31, x32, x33, x34, x35, x36, x37, x38, x39, x40, x41, x42, x43, x44, x45, x46, x47, x48, x49, x50, x51, x52, x53, x54, x55, x56, x57, x58, u59, u60, u61, u62, u63, u64, u65, u66, u67, u68, u69, u70, u71, u72, u73, u74, u75, u76, u77, u78, u79, u80, u81, u82, u83, u84, u85, u86, u87, u88, u89, u90, u91, u92, u93, u94], []⟩ W) :
    shP1.wp Try.prog Q ⟨#[.pointer (some ⟨g, 0, none⟩), .slice A n c, u2, u3, u4, u5, u6, u7, u8, u9, u10, u11, u12, u13, u14, u15, u16, u17, u18, u19, u20, u21, u22, u23, u24, u25, u26, u27, u28, u29, u30, u31, u32, u33, u34, u35, u36, u37, u38, u39, u40, u41, u42, u43, u44, u45, u46, u47, u48, u49, u50, u51, u52, u53, u54, u55, u56, u57, u58, u59, u60, u61, u62, u63, u64, u65, u66, u67, u68, u69, u70, u71, u72, u73, u74, u75, u76, u77, u78, u79, u80, u81, u82, u83, u84, u85, u86, u87, u88, u89, u90, u91, u92, u93, u94], []⟩ w := by
  have HQ := Lib.hid hQ
  obtain ⟨bb, off, rfl, hbl, hcell⟩ := BytesAt.at_ hp (k := 0) (by omega)
  have hbg : bb ≠ g := hA _ rfl
  obtain ⟨W1, hrun, hb1, k1⟩ := run_copy_bytes w.drew 3 (some ⟨g, 8 + nx, none⟩) (some ⟨bb, off, none⟩) (64 - nx) (64 - nx) n c g (8 + nx) (DgL h (DgR x nx len s)) 54 hd p (hp.still (Kept.refl NoBlk w).drew) hpn.symm k (by omega) (fun _ => rfl) (by rw [dgL_length, dgR_length hx]; omega)
  have c72 := hd.nxC hx
  have hlt : (p.take k).length = k := by rw [List.length_take]; omega
  have hxl : (splice x nx (p.take k)).length = 64 := by rw [splice_len x _ nx (by omega)]; exact hx
  obtain ⟨x2, hx2⟩ : ∃ x2, splice x nx (p.take k) = x2 := ⟨_, rfl⟩
  have hd1 : DgAt W1 g h (DgR x2 nx len s) := by
    rw [dgL_splice h x _ nx len s hx nx (by omega), hx2] at hb1
    exact hb1
  rw [hx2] at HQ hxl
  have d72 := hd1.nxC hxl
  have f72 := Blk.frozen hd1 72
  have ew : IntKind.i64.wrap ((nx : Int) + (k : Int)) = 64 := by rw [IntKind.wrap_i64]; omega
  have k2 : Kept (OneBlk g) w (W1.setCell ⟨g, 72, none⟩ (.int .i64 64)) := ((Kept.refl _ w).drew.trans k1).setOne 72 _
  have hd2 := hd1.setNx hxl 64
  have hb := block_any g h (DgR x2 64 len s) ks (some ⟨g, 8, none⟩) 64 x2 _ hd2 (hk.kept k2 (fun e => hg0 e.symm)) hd2.bytes (fun a e => by cases e; exact Blk.lt hd2) (by omega)
  rw [hxl] at hb
  have hdrop : BytesAt w (some ⟨bb, off + k, none⟩) (p.drop k) := by
    have := At.drop hp k (by rw [List.length_map]; omega)
    rw [← List.map_drop] at this
    exact this
  have hmt : n - k = 0 → p.drop k = [] := fun h0 => List.drop_eq_nil_of_le (by omega)
  have hblk : hsF (blkS ks) h x2 (64 / 64) = blkS ks h x2 := by
    show blkS ks h ((x2.drop 0).take 64) = _
    rw [List.drop_zero, List.take_of_length_le (by omega)]
  rw [hblk] at hb
  have HB := Lib.hid hb
  have HK := Lib.hid k2
  have HDR := Lib.hid hdrop
  have HMT := Lib.hid hmt
  have HXL := Lib.hid hxl
  have hnx0 : (0 : Int) < (nx : Int) := by omega
  have hnx64 : (nx : Int) ≤ 64 := by omega
  clear hQ hd hp hb1 k1 k2 hd1 hd2 hxl hpn hk hcell hb hdrop hmt hblk hlt hA
  conv => arg 2; whnf
  go_wp2_with fail
  go_region
  go_wp2_with fail
  refine HB.out.mono ?_
  rintro e w3 ⟨rfl, hd3, k3⟩
  have c72 := hd3.nxC HXL.out
  have f72 := Blk.frozen hd3 72
  have FIN := Lib.hid (And.intro (hd3.setNx HXL.out 0) ((HK.out.trans k3).setOne 72 (.int .i64 0)))
  clear hd3 k3
  go_wp2_with fail
  · exact HQ.out _ _ _ _ _ _ _ _ _ _ _ _ _ _ _ _ _ _ _ _ _ _ _ _ _ _ _ _ _ _ _ _ _ _ _ _ _ _ _ _ _ _ _ 0 (by omega) (by rw [HMT.out (by omega)]; exact BytesAt.nil _ _) (fun a e => by cases e; exact hbg) FIN.out.1 FIN.out.2
  · exact HQ.out _ _ _ _ _ _ _ _ _ _ _ _ _ _ _ _ _ _ _ _ _ _ _ _ _ _ _ _ _ _ _ _ _ _ _ _ _ _ _ _ _ _ _ _ (by omega) (HDR.out.kept FIN.out.2 (fun a e => by cases e; exact hbg)) (fun a e => by cases e; exact hbg) FIN.out.1 FIN.out.2

end Go.Proofs.Ytgkfnmmajehobaa
