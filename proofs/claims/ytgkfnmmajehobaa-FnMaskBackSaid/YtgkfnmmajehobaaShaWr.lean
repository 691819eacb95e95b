/-
  sha256.Digest.Write (printed by gen_shawr.py).
-/
import Derived.Test.YtgkfnmmajehobaaShaW
namespace Go.Proofs.Ytgkfnmmajehobaa
open Go.RowKit

/-- The digest once m has been written. -/
def ShaAt (w : World) (g : Nat) (ks : List Int) (iv : Reg) (m : List UInt8) : Prop := ∃ x : List UInt8, x.length = 64 ∧ x.take (m.length % 64) = tailM m ∧ DgAt w g (shaH (blkS ks) iv m) (DgR x ((m.length % 64 : Nat) : Int) (m.length : Int) false)
theorem ShaAt.kept {w w' : World} {S : Nat → Prop} {g : Nat} {ks : List Int} {iv : Reg} {m : List UInt8} (h : ShaAt w g ks iv m) (k : Kept S w w') (hs : ¬ S g) : ShaAt w' g ks iv m := by
  obtain ⟨x, h1, h2, h3⟩ := h
  exact ⟨x, h1, h2, h3.kept k hs⟩


set_option maxHeartbeats 4000000 in
set_option maxRecDepth 100000 in
theorem shRest (u2 u3 u4 u5 u6 u7 u8 u9 u10 u11 u12 u13 u14 u15 u16 u17 u18 u19 u20 u21 u22 u23 u24 u25 u26 u27 u28 u29 u30 u31 u32 u33 u34 u35 u36 u37 u38 u39 u40 u41 u42 u43 u44 u45 u46 u47 u48 u49 u50 u51 u52 u53 u54 u55 u56 u57 u58 u59 u60 u61 u62 u63 u64 u65 u66 u67 u68 u69 u70 u71 u72 u73 u74 u75 u76 u77 u78 u79 u80 u81 u82 u83 u84 u85 u86 u87 u88 u89 u90 u91 u92 u93 u94 : Value) (g n c : Nat) (A : Option Addr) (h : Reg) (x p : List UInt8) (len : Int) (s : Bool) (ks : List Int) (w : World) (Q : Exit → Act → World → Prop) (C : Code) (hd : DgAt w g h (DgR x 0 len s)) (hx : x.length = 64) (hk : KAt w ks) (hp : BytesAt w A p) (hA : ∀ a, A = some a → a.block ≠ g) (hpn : p.length = n) (hnc : n ≤ c) (hn : n ≤ 65536)
    (hQ : ∀ (W : World) (x1 x7 x59 x60 x61 x62 x63 x64 x65 x66 x67 x68 x69 x70 x71 x72 x73 x74 x75 x76 x77 x78 x79 x80 x81 x82 x83 x84 x85 x86 x87 x88 x89 x90 x91 x92 x93 x94 : Value) (x2 : List UInt8), x2.length = 64 → x2.take (n % 64) = tailM p → DgAt W g (hsF (blkS ks) h p (n / 64)) (DgR x2 ((n % 64 : Nat) : Int) len s) → Kept (OneBlk g) w W → C.wp Try.prog Q ⟨#[.pointer (some ⟨g, 0, none⟩), x1, u2, u3, u4, u5, u6, x7, u8, u9, u10, u11, u12, u13, u14, u15, u16, u17, u18, u19, u20, u21, u22, u23, u24, u25, u26, u27, u28, u29, u30, u31, u32, u33, u34, u35, u36, u37, u38, u39, u40, u41, u42, u43, u44, u45, u46, u47, u48, u49, u50, u51, u52, u53, u54, u55, u56, u57, u58, x59, x60, x61, x62, x63, x64, x65, x66, x67, x68, x69, x70, x71, x72, x73, x74, x75, x76, x77, x78, x79, x80, x81, x82, x83, x84, x85, x86, x87, x88, x89, x90, x91, x92, x93, x94], []⟩ W) :
    (Code.seq shP2 (Code.seq shP3 C)).wp Try.prog Q ⟨#[.pointer (some ⟨g, 0, none⟩), .slice A n c, u2, u3, u4, u5, u6, u7, u8, u9, u10, u11, u12, u13, u14, u15, u16, u17, u18, u19, u20, u21, u22, u23, u24, u25, u26, u27, u28, u29, u30, u31, u32, u33, u34, u35, u36, u37, u38, u39, u40, u41, u42, u43, u44, u45, u46, u47, u48, u49, u50, u51, u52, u53, u54, u55, u56, u57, u58, u59, u60, u61, u62, u63, u64, u65, u66, u67, u68, u69, u70, u71, u72, u73, u74, u75, u76, u77, u78, u79, u80, u81, u82, u83, u84, u85, u86, u87, u88, u89, u90, u91, u92, u93, u94], []⟩ w := by
  have HQ := Lib.hid hQ
  clear hQ
  have htl : (tailM p).length = n % 64 := by rw [tailM_length, hpn]
  refine wp_seq ?_
  rcases Nat.lt_or_ge n 64 with hlt | hge
  · have hdiv : n / 64 = 0 := by omega
    have hmod : n % 64 = n := by omega
    rw [hdiv, hmod] at HQ
    have htp : tailM p = p := by unfold tailM; rw [hpn, hdiv]; rfl
    refine shP2_short _ _ _ _ _ _ _ _ _ _ _ _ _ _ _ _ _ _ _ _ _ _ _ _ _ _ _ _ _ _ _ _ _ _ _ _ _ _ _ _ _ _ _ _ _ _ _ _ _ _ _ _ _ _ _ _ _ _ _ _ _ _ _ _ _ _ _ _ _ _ _ _ _ _ _ _ _ _ _ _ _ _ _ _ _ _ _ _ _ _ _ _ _ _ A n c w _ hlt ?_
    intro x59 x60 x61
    show (Code.seq shP3 C).wp _ _ _ _
    refine wp_seq ?_
    rcases Nat.eq_zero_or_pos n with h0 | h0
    · subst h0
      refine shP3_none _ _ _ _ _ _ _ _ _ _ _ _ _ _ _ _ _ _ _ _ _ _ _ _ _ _ _ _ _ _ _ _ _ _ _ _ _ _ _ _ _ _ _ _ _ _ _ _ _ _ _ _ _ _ _ _ _ _ _ _ _ _ _ _ _ _ _ _ _ _ _ _ _ _ _ _ _ _ _ _ _ _ _ _ _ _ _ _ _ _ _ _ _ _ A c w _ ?_
      intro x83 x84 x85
      show C.wp _ _ _ _
      exact HQ.out w _ _ _ _ _ _ _ _ _ _ _ _ _ _ _ _ _ _ _ _ _ _ _ _ _ _ _ _ _ _ _ _ _ _ _ _ _ _ x hx (by rw [htp, List.take_zero, List.length_eq_zero_iff.1 hpn]) hd (Kept.refl _ _)
    · subst hpn
      refine shP3_some _ _ _ _ _ _ _ _ _ _ _ _ _ _ _ _ _ _ _ _ _ _ _ _ _ _ _ _ _ _ _ _ _ _ _ _ _ _ _ _ _ _ _ _ _ _ _ _ _ _ _ _ _ _ _ _ _ _ _ _ _ _ _ _ _ _ _ _ _ _ _ _ _ _ _ _ _ _ _ _ _ _ _ _ _ _ _ _ _ _ _ _ _ g A c h x p 0 len s w _ hd hx hp h0 hlt ?_
      intro W x83 x84 x85 x86 x87 x88 x89 x90 x91 x92 x93 x94 hd2 k2
      show C.wp _ _ _ _
      refine HQ.out W _ _ _ _ _ _ _ _ _ _ _ _ _ _ _ _ _ _ _ _ _ _ _ _ _ _ _ _ _ _ _ _ _ _ _ _ _ _ (splice x 0 p) (by rw [splice_len x p 0 (by omega)]; exact hx) ?_ hd2 k2
      have := splice_take x p 0 (by omega)
      rw [Nat.zero_add, List.take_zero, List.nil_append] at this
      rw [this, htp]
  · refine shP2_long _ _ _ _ _ _ _ _ _ _ _ _ _ _ _ _ _ _ _ _ _ _ _ _ _ _ _ _ _ _ _ _ _ _ _ _ _ _ _ _ _ _ _ _ _ _ _ _ _ _ _ _ _ _ _ _ _ _ _ _ _ _ _ _ _ _ _ _ _ _ _ _ _ _ _ _ _ _ _ _ _ _ _ _ _ _ _ _ _ _ _ _ _ g n (64 * (n / 64)) c A h _ p ks w _ hd hk hp (fun a e => ?_) hpn hnc hge hn rfl ?_
    · obtain ⟨bb, off, e2, hb, _⟩ := BytesAt.at_ hp (k := 0) (by omega)
      rw [e2] at e
      cases e
      exact hb
    intro W x7 x59 x60 x61 x62 x63 x64 x65 x66 x67 x68 x69 x70 x71 x72 x73 x74 x75 x76 x77 x78 x79 x80 x81 x82 A2 c2 hc2 hat hA2 hd2 k2
    have hpd : (p.drop (64 * (n / 64))).length = n - 64 * (n / 64) := by rw [List.length_drop, hpn]
    have htp : tailM p = p.drop (64 * (n / 64)) := by unfold tailM; rw [hpn]
    have hat2 : BytesAt W A2 (p.drop (64 * (n / 64))) := hat.kept k2 (fun a e => by obtain ⟨b, e2, e3⟩ := hA2 a e; have := hA b e2; intro e4; exact this (e3.symm.trans e4))
    have hmod : n % 64 = n - 64 * (n / 64) := by omega
    rw [htp, hmod] at HQ
    generalize hpp : p.drop (64 * (n / 64)) = p2 at *
    generalize hnn : n - 64 * (n / 64) = n2 at *
    show (Code.seq shP3 C).wp _ _ _ _
    refine wp_seq ?_
    rcases Nat.eq_zero_or_pos n2 with h0 | h0
    · subst h0
      refine shP3_none _ _ _ _ _ _ _ _ _ _ _ _ _ _ _ _ _ _ _ _ _ _ _ _ _ _ _ _ _ _ _ _ _ _ _ _ _ _ _ _ _ _ _ _ _ _ _ _ _ _ _ _ _ _ _ _ _ _ _ _ _ _ _ _ _ _ _ _ _ _ _ _ _ _ _ _ _ _ _ _ _ _ _ _ _ _ _ _ _ _ _ _ _ _ A2 c2 W _ ?_
      intro x83 x84 x85
      show C.wp _ _ _ _
      exact HQ.out W _ _ _ _ _ _ _ _ _ _ _ _ _ _ _ _ _ _ _ _ _ _ _ _ _ _ _ _ _ _ _ _ _ _ _ _ _ _ x hx (by rw [List.take_zero, List.length_eq_zero_iff.1 hpd]) hd2 k2
    · subst hpd
      refine shP3_some _ _ _ _ _ _ _ _ _ _ _ _ _ _ _ _ _ _ _ _ _ _ _ _ _ _ _ _ _ _ _ _ _ _ _ _ _ _ _ _ _ _ _ _ _ _ _ _ _ _ _ _ _ _ _ _ _ _ _ _ _ _ _ _ _ _ _ _ _ _ _ _ _ _ _ _ _ _ _ _ _ _ _ _ _ _ _ _ _ _ _ _ _ g A2 c2 _ x p2 0 len s W _ hd2 hx hat2 h0 (by omega) ?_
      intro W2 x83 x84 x85 x86 x87 x88 x89 x90 x91 x92 x93 x94 hd3 k3
      show C.wp _ _ _ _
      refine HQ.out W2 _ _ _ _ _ _ _ _ _ _ _ _ _ _ _ _ _ _ _ _ _ _ _ _ _ _ _ _ _ _ _ _ _ _ _ _ _ _ (splice x 0 p2) (by rw [splice_len x p2 0 (by omega)]; exact hx) ?_ hd3 (k2.trans k3)
      have := splice_take x p2 0 (by omega)
      rw [Nat.zero_add, List.take_zero, List.nil_append] at this
      exact this


theorem shaWrite_any (g : Nat) (ks : List Int) (iv : Reg) (m : List UInt8) (A : Option Addr) (c : Nat) (p : List UInt8) (w : World) (ho : ShaAt w g ks iv m) (hk : KAt w ks) (hg0 : g ≠ 0) (hp : BytesAt w A p) (hA : ∀ a, A = some a → a.block ≠ g) (hc : p.length ≤ c) (hpl : p.length ≤ 65536) (hml : m.length ≤ 1000000) :
    Calls Try.prog 34 #[.pointer (some ⟨g, 0, none⟩), .slice A p.length c] w fun e w' => e = .returned (.tuple #[.int .i64 (p.length : Int), .nilIface]) ∧ ShaAt w' g ks iv (m ++ p) ∧ Kept (OneBlk g) w w' := by
  obtain ⟨x, hx, htk, hd⟩ := ho
  obtain ⟨n, hn⟩ : ∃ n, p.length = n := ⟨_, rfl⟩
  obtain ⟨nx, hnx⟩ : ∃ nx, m.length % 64 = nx := ⟨_, rfl⟩
  rw [hnx] at htk hd
  rw [hn] at hc hpl ⊢
  have htl : (tailM m).length = nx := by rw [tailM_length, hnx]
  have c73 := hd.lenC hx
  have f73 := Blk.frozen hd 73
  have ew2 : IntKind.u64.wrap (n : Int) = (n : Int) := by rw [IntKind.wrap_u64]; omega
  have hd1 := hd.setLen hx ((m.length : Int) + (n : Int))
  have k1 : Kept (OneBlk g) w (w.setCell ⟨g, 73, none⟩ (.int .u64 ((m.length : Int) + (n : Int)))) := (Kept.refl _ w).setOne 73 _
  have hlen : (m ++ p).length = m.length + n := by rw [List.length_append, hn]
  have HD := Lib.hid hd1
  have HK1 := Lib.hid k1
  have HKA := Lib.hid hk
  have HP := Lib.hid hp
  have HA := Lib.hid hA
  have HTK := Lib.hid htk
  clear hd hd1 k1 hk hp hA htk
  refine calls_of_wp Try.func34 shBody_eq ?_
  simp only [Try.ntmps34, List.size_toArray, List.length_cons, List.length_nil, Nat.reduceAdd, Nat.reduceSub, Array.replicate_succ, Array.replicate_zero, List.push_toArray, List.append_toArray, List.nil_append, List.cons_append]
  refine wp_seq ?_
  conv => arg 2; whnf
  go_wp2_with fail
  conv => arg 2; whnf
  go_wp2_with fail
  conv => arg 2; whnf
  go_wp2_with fail
  generalize hw1 : w.setCell ⟨g, 73, none⟩ (.int .u64 ((m.length : Int) + (n : Int))) = w1 at *
  have hp1 : BytesAt w1 A p := HP.out.kept HK1.out HA.out
  have ka1 := HKA.out.kept HK1.out (fun e => hg0 e.symm)
  rename_i K hK
  have FIN : ∀ (W : World) (x2 : List UInt8) (nx2 : Nat) (h2 : Reg), nx2 = (m ++ p).length % 64 → h2 = shaH (blkS ks) iv (m ++ p) → x2.length = 64 → x2.take nx2 = tailM (m ++ p) → DgAt W g h2 (DgR x2 (nx2 : Int) ((m.length : Int) + (n : Int)) false) → Kept (OneBlk g) w1 W → ShaAt W g ks iv (m ++ p) ∧ Kept (OneBlk g) w W := by
    rintro W x2 nx2 h2 rfl rfl h3 h4 h5 h6
    exact ⟨⟨x2, h3, h4, by rw [hlen, Int.natCast_add] at *; exact h5⟩, HK1.out.trans h6⟩
  rcases Nat.eq_zero_or_pos nx with h0 | h0
  · subst h0
    have hm := shaH_more (blkS ks) iv m p hnx
    refine shP1_skip _ _ _ _ _ _ _ _ _ _ _ _ _ _ _ _ _ _ _ _ _ _ _ _ _ _ _ _ _ _ _ _ _ _ _ _ _ _ _ _ _ _ _ _ _ _ _ _ _ _ _ _ _ _ _ _ _ _ _ _ _ _ _ _ _ _ _ _ _ _ _ _ _ _ _ _ _ _ _ _ _ _ _ _ _ _ _ _ _ _ _ _ _ _ g w1 _ (HD.out.nxC hx) ?_
    intro x19 x20 x21 x22 x23
    refine hK _ _ ?_
    refine shRest _ _ _ _ _ _ _ _ _ _ _ _ _ _ _ _ _ _ _ _ _ _ _ _ _ _ _ _ _ _ _ _ _ _ _ _ _ _ _ _ _ _ _ _ _ _ _ _ _ _ _ _ _ _ _ _ _ _ _ _ _ _ _ _ _ _ _ _ _ _ _ _ _ _ _ _ _ _ _ _ _ _ _ _ _ _ _ _ _ _ _ _ _ g n c A _ x p _ false ks w1 _ _ HD.out hx ka1 hp1 HA.out hn hc hpl ?_
    intro W x1 x7 x59 x60 x61 x62 x63 x64 x65 x66 x67 x68 x69 x70 x71 x72 x73 x74 x75 x76 x77 x78 x79 x80 x81 x82 x83 x84 x85 x86 x87 x88 x89 x90 x91 x92 x93 x94 x2 hx2 ht2 hd2 k2
    have F := Lib.hid (FIN W x2 (n % 64) _ (by rw [hlen]; omega) (by rw [hm.1, hn]) hx2 (by rw [ht2, hm.2]) hd2 k2)
    clear FIN hd2 k2 ht2 hx2 hm hp1 ka1
    go_wp2_with fail
    go_ret2
    exact ⟨rfl, F.out⟩
  · rcases Nat.lt_or_ge (nx + n) 64 with hlt | hge
    · have hm := shaH_less (blkS ks) iv m p (by rw [hnx, hn]; exact hlt)
      refine shP1_part _ _ _ _ _ _ _ _ _ _ _ _ _ _ _ _ _ _ _ _ _ _ _ _ _ _ _ _ _ _ _ _ _ _ _ _ _ _ _ _ _ _ _ _ _ _ _ _ _ _ _ _ _ _ _ _ _ _ _ _ _ _ _ _ _ _ _ _ _ _ _ _ _ _ _ _ _ _ _ _ _ _ _ _ _ _ _ _ _ _ _ _ _ g n c nx A _ x p _ false w1 _ HD.out hx hp1 hn hc h0 hlt ?_
      intro W x6 x19 x20 x21 x22 x23 x24 x25 x26 x27 x28 x29 x30 x31 x32 x33 x34 x35 x36 x37 x38 x39 x40 x41 x42 x43 x44 x45 x46 x47 x48 x49 x50 x51 x52 x53 x54 x55 x56 x57 x58 A2 c2 hd2 k2
      refine hK _ _ ?_
      refine wp_seq ?_
      refine shP2_short _ _ _ _ _ _ _ _ _ _ _ _ _ _ _ _ _ _ _ _ _ _ _ _ _ _ _ _ _ _ _ _ _ _ _ _ _ _ _ _ _ _ _ _ _ _ _ _ _ _ _ _ _ _ _ _ _ _ _ _ _ _ _ _ _ _ _ _ _ _ _ _ _ _ _ _ _ _ _ _ _ _ _ _ _ _ _ _ _ _ _ _ _ _ A2 0 c2 W _ (by omega) ?_
      intro x59 x60 x61
      show (Code.seq shP3 .ret).wp _ _ _ _
      refine wp_seq ?_
      refine shP3_none _ _ _ _ _ _ _ _ _ _ _ _ _ _ _ _ _ _ _ _ _ _ _ _ _ _ _ _ _ _ _ _ _ _ _ _ _ _ _ _ _ _ _ _ _ _ _ _ _ _ _ _ _ _ _ _ _ _ _ _ _ _ _ _ _ _ _ _ _ _ _ _ _ _ _ _ _ _ _ _ _ _ _ _ _ _ _ _ _ _ _ _ _ _ A2 c2 W _ ?_
      intro x83 x84 x85
      show Code.ret.wp _ _ _ _
      have hst := splice_take x p nx (by omega)
      rw [hn] at hst
      have F := Lib.hid (FIN W (splice x nx p) (nx + n) _ (by rw [hlen]; omega) hm.1.symm (by rw [splice_len x p nx (by omega)]; exact hx) (by rw [hst, HTK.out, hm.2]) hd2 k2)
      clear FIN hd2 k2 hst hm hp1 ka1
      go_wp2_with fail
      go_ret2
      exact ⟨rfl, F.out⟩
    · obtain ⟨k, hk⟩ : ∃ k, nx + k = 64 := ⟨64 - nx, by omega⟩
      have hkl : (p.take k).length = k := by rw [List.length_take]; omega
      have hpd : (p.drop k).length = n - k := by rw [List.length_drop, hn]
      have hf := shaH_fill (blkS ks) iv m (p.take k) (by rw [hnx, hkl]; exact hk)
      have hml1 : (m ++ p.take k).length = m.length + k := by rw [List.length_append, hkl]
      have hr := shaH_more (blkS ks) iv (m ++ p.take k) (p.drop k) (by rw [hml1]; omega)
      rw [List.append_assoc, List.take_append_drop, hf.1, hpd] at hr
      have hsl : (splice x nx (p.take k)).length = 64 := by rw [splice_len x _ nx (by omega)]; exact hx
      have hst := splice_take x (p.take k) nx (by omega)
      rw [hkl, hk, List.take_of_length_le (by omega), HTK.out] at hst
      rw [← hst] at hr
      refine shP1_fill _ _ _ _ _ _ _ _ _ _ _ _ _ _ _ _ _ _ _ _ _ _ _ _ _ _ _ _ _ _ _ _ _ _ _ _ _ _ _ _ _ _ _ _ _ _ _ _ _ _ _ _ _ _ _ _ _ _ _ _ _ _ _ _ _ _ _ _ _ _ _ _ _ _ _ _ _ _ _ _ _ _ _ _ _ _ _ _ _ _ _ _ _ g n c nx k A _ x p _ false ks w1 _ HD.out hx ka1 hg0 hp1 HA.out hn hc h0 hk (by omega) (by omega) ?_
      intro W x6 x19 x20 x21 x22 x23 x24 x25 x26 x27 x28 x29 x30 x31 x32 x33 x34 x35 x36 x37 x38 x39 x40 x41 x42 x43 x44 x45 x46 x47 x48 x49 x50 x51 x52 x53 x54 x55 x56 x57 x58 A2 c2 hc2 hat hA2 hd2 k2
      refine hK _ _ ?_
      refine shRest _ _ _ _ _ _ _ _ _ _ _ _ _ _ _ _ _ _ _ _ _ _ _ _ _ _ _ _ _ _ _ _ _ _ _ _ _ _ _ _ _ _ _ _ _ _ _ _ _ _ _ _ _ _ _ _ _ _ _ _ _ _ _ _ _ _ _ _ _ _ _ _ _ _ _ _ _ _ _ _ _ _ _ _ _ _ _ _ _ _ _ _ _ g (n - k) c2 A2 _ _ (p.drop k) _ false ks W _ _ hd2 hsl (ka1.kept k2 (fun e => hg0 e.symm)) hat hA2 hpd hc2 (by omega) ?_
      intro W2 x1 x7 x59 x60 x61 x62 x63 x64 x65 x66 x67 x68 x69 x70 x71 x72 x73 x74 x75 x76 x77 x78 x79 x80 x81 x82 x83 x84 x85 x86 x87 x88 x89 x90 x91 x92 x93 x94 x2 hx2 ht2 hd3 k3
      have F := Lib.hid (FIN W2 x2 ((n - k) % 64) _ (by rw [hlen]; omega) hr.1.symm hx2 (by rw [ht2, hr.2]) hd3 (k2.trans k3))
      clear FIN hd2 k2 hd3 k3 hst hr hf hp1 ka1 ht2 hx2 hat hA2
      go_wp2_with fail
      go_ret2
      exact ⟨rfl, F.out⟩

end Go.Proofs.Ytgkfnmmajehobaa
