/-
  The own hash: Write, Sum.
-/
import Derived.Test.YtgkfnmmajehobaaCopy
import Derived.Test.YtgkfnmmajehobaaMake
import Derived.Test.YtgkfnmmajehobaaNum
import Derived.Test.YtgkfnmmajehobaaMaskP
import Derived.BigRegion
import Derived.BigQuiet
import Derived.Deep.QuietTactic
namespace Go.Proofs.Ytgkfnmmajehobaa
open Go.RowKit

theorem u8_xor (x y : UInt8) : bits .xor .u8 (x.toNat : Int) (y.toNat : Int) = ((x ^^^ y).toNat : Int) := by
  have h1 : (BitVec.ofInt 8 (x.toNat : Int)) = x.toBitVec := by
    rw [BitVec.ofInt_natCast]; exact BitVec.ofNat_toNat _ _ |>.trans (by simp)
  have h2 : (BitVec.ofInt 8 (y.toNat : Int)) = y.toBitVec := by
    rw [BitVec.ofInt_natCast]; exact BitVec.ofNat_toNat _ _ |>.trans (by simp)
  show IntKind.u8.wrap ((BitVec.ofInt 8 (x.toNat : Int) ^^^ BitVec.ofInt 8 (y.toNat : Int)).toNat : Int) = _
  rw [h1, h2, IntKind.wrap_u8]
  have h3 : (x.toBitVec ^^^ y.toBitVec).toNat = (x ^^^ y).toNat := rfl
  rw [h3]
  have := (x ^^^ y).toNat_lt
  omega
theorem u8_add (x y : UInt8) : IntKind.u8.wrap ((x.toNat : Int) + (y.toNat : Int)) = ((x + y).toNat : Int) := by
  rw [IntKind.wrap_u8, UInt8.toNat_add]; omega
theorem u8_mul31 (x : UInt8) : IntKind.u8.wrap (31 * (x.toNat : Int)) = ((31 * x).toNat : Int) := by
  rw [IntKind.wrap_u8, UInt8.toNat_mul]
  show _ = ((31 * x.toNat % 256 : Nat) : Int)
  omega
theorem u8_of (c : Nat) : IntKind.u8.wrap (c : Int) = ((UInt8.ofNat c).toNat : Int) := by
  rw [IntKind.wrap_u8, UInt8.toNat_ofNat']; omega
/-- A row of bytes, one of them. -/
theorem Blk.byte {w : World} {r : Nat} {s : List UInt8} {x : UInt8} {k : Nat} (h : Blk w r 5 (s.map B).toArray) (hx : s[k]? = some x) : w.cell? ⟨r, k, none⟩ = some (.int .u8 (x.toNat : Int)) := h.cellIs (by rw [List.getElem?_toArray, List.getElem?_map, hx]; rfl)
theorem Blk.putByte {w : World} {r : Nat} {s : List UInt8} (h : Blk w r 5 (s.map B).toArray) (k : Nat) (z : UInt8) : Blk (w.setCell ⟨r, k, none⟩ (.int .u8 (z.toNat : Int))) r 5 ((s.set k z).map B).toArray := by
  have := h.set_ k (.int .u8 (z.toNat : Int))
  rw [List.setIfInBounds_toArray] at this
  rw [List.map_set]
  exact this
theorem getD_of {s : List UInt8} {k : Nat} {x : UInt8} (h : s[k]? = some x) : s.getD k 0 = x := by rw [List.getD_eq_getElem?_getD, h]; rfl
theorem some_at {s : List UInt8} {k : Nat} (h : k < s.length) : ∃ x, s[k]? = some x := ⟨_, List.getElem?_eq_getElem h⟩

/-- The own hash in memory, so far. -/
def OwnAt (w : World) (g r n : Nat) (x1 : Value) (cs : Nat × List UInt8) : Prop := Blk w g 56 #[.int .i64 n, x1, .int .i64 cs.1, .slice (some ⟨r, 0, none⟩) n n] ∧ Blk w r 5 (cs.2.map B).toArray ∧ cs.2.length = n
def Two (g r : Nat) : Nat → Prop := fun k => k = g ∨ k = r

set_option maxHeartbeats 1600000 in
set_option maxRecDepth 20000 in
theorem ownWrite_any (g r n : Nat) (x1 : Value) (cs : Nat × List UInt8) (A : Option Addr) (c : Nat) (p : List UInt8) (w : World) (ho : OwnAt w g r n x1 cs) (hp : BytesAt w A p) (hA : ∀ a, A = some a → ¬ Two g r a.block) (hn1 : 1 ≤ n) (hn : n ≤ 16) (hpl : p.length ≤ 1000000) (hcl : cs.1 ≤ 1000000) :
    Calls Try.prog 44 #[.pointer (some ⟨g, 0, none⟩), .slice A p.length c] w fun e w' => e = .returned (.tuple #[.int .i64 (p.length : Int), .nilIface]) ∧ OwnAt w' g r n x1 (ownRun n cs p) ∧ Kept (Two g r) w w' := by
  have hne : g ≠ r := ho.1.ne_ ho.2.1 (by decide)
  have HO := Lib.hid ho
  have HP := Lib.hid hp
  have HA := Lib.hid hA
  have HNE := Lib.hid hne
  have hn0 : ((n : Int) == 0) = false := by rw [beq_eq_false_iff_ne]; omega
  clear ho hp hA hne
  go_enter Try.func44, Try.ntmps44
  go_wp2_with fail
  go_loopw [11] (fun iv wr => ∃ i : Nat, i ≤ p.length ∧ iv = .int .i64 (i : Int) ∧ OwnAt wr g r n x1 (ownRun n cs (p.take i)) ∧ Kept (Two g r) w wr) (fun iv _ => p.length - (intOf iv).toNat)
  case atStart => exact ⟨0, Nat.zero_le _, rfl, HO.out, Kept.refl _ _⟩
  case round =>
    obtain ⟨i, hi, rfl, ho, hk⟩ := hrel
    rcases Nat.lt_or_ge i p.length with hlt | hge
    · obtain ⟨b, hb⟩ := some_at hlt
      have hstep := ownRun_take n cs p i b hb
      have hcnt := ownRun_count n cs (p.take i)
      obtain ⟨st, hst⟩ : ∃ st, ownRun n cs (p.take i) = st := ⟨_, rfl⟩
      rw [hst] at ho hstep hcnt
      obtain ⟨cc, s⟩ := st
      obtain ⟨hg, hr, hsl⟩ := ho
      simp only at hcnt hsl hg hr
      rw [List.length_take] at hcnt
      have hcc : cc ≤ 2000000 := by omega
      obtain ⟨bb, off, rfl, hbl, hcell⟩ := (HP.out.kept hk HA.out).at_ (k := 0) (by omega)
      have cb : wr.cell? ⟨bb, off + i, none⟩ = some (.int .u8 (b.toNat : Int)) := hcell _ b hb
      obtain ⟨k, hkk⟩ : ∃ k, cc % n = k := ⟨_, rfl⟩
      obtain ⟨k2, hk2⟩ : ∃ k2, (cc + 1) % n = k2 := ⟨_, rfl⟩
      have hkn : k < n := by rw [← hkk]; exact Nat.mod_lt _ hn1
      have hkn2 : k2 < n := by rw [← hk2]; exact Nat.mod_lt _ hn1
      have wk : (cc : Int).tmod (n : Int) = (k : Int) := by rw [Int.tmod_eq_emod_of_nonneg (by omega), ← hkk]; simp
      have wk2 : ((cc : Int) + 1).tmod (n : Int) = (k2 : Int) := by
        rw [Int.tmod_eq_emod_of_nonneg (by omega), ← hk2]; simp
      have wwk : IntKind.i64.wrap (k : Int) = (k : Int) := by rw [IntKind.wrap_i64]; omega
      have wwk2 : IntKind.i64.wrap (k2 : Int) = (k2 : Int) := by rw [IntKind.wrap_i64]; omega
      have wcc : IntKind.i64.wrap ((cc : Int) + 1) = (cc : Int) + 1 := by rw [IntKind.wrap_i64]; omega
      have kz : (0 : Int) ≤ (k : Int) := by omega
      have kz2 : (0 : Int) ≤ (k2 : Int) := by omega
      have kl : (k : Int) < (n : Int) := Int.ofNat_lt.2 hkn
      have kl2 : (k2 : Int) < (n : Int) := Int.ofNat_lt.2 hkn2
      obtain ⟨x, hx⟩ := some_at (s := s) (k := k) (by omega)
      have e1 := u8_mul31 x
      have e2 := u8_add (31 * x) b
      have e3 := u8_of cc
      have e4 := u8_add (31 * x + b) (UInt8.ofNat cc)
      obtain ⟨y1, hy1⟩ : ∃ y1, 31 * x = y1 := ⟨_, rfl⟩
      rw [hy1] at e1 e2 e4
      obtain ⟨y2, hy2⟩ : ∃ y2, y1 + b = y2 := ⟨_, rfl⟩
      rw [hy2] at e2 e4
      obtain ⟨yc, hyc⟩ : ∃ yc, UInt8.ofNat cc = yc := ⟨_, rfl⟩
      rw [hyc] at e3 e4
      obtain ⟨v1, hv1⟩ : ∃ v1, y2 + yc = v1 := ⟨_, rfl⟩
      rw [hv1] at e4
      obtain ⟨s1, hs1⟩ : ∃ s1, s.set k v1 = s1 := ⟨_, rfl⟩
      have hs1l : s1.length = n := by rw [← hs1, List.length_set]; exact hsl
      obtain ⟨z1, hz1⟩ := some_at (s := s1) (k := k2) (by omega)
      obtain ⟨z2, hz2⟩ := some_at (s := s1) (k := k) (by omega)
      have e5 := u8_xor z1 z2
      obtain ⟨v2, hv2⟩ : ∃ v2, z1 ^^^ z2 = v2 := ⟨_, rfl⟩
      rw [hv2] at e5
      have hnext : ownRun n cs (p.take (i + 1)) = (cc + 1, s1.set k2 v2) := by
        rw [hstep]
        unfold ownStep
        simp only
        rw [hkk, hk2, getD_of hx, hy1, hy2, hyc, hv1, hs1, getD_of hz1, getD_of hz2, hv2]
      have d0 : wr.cell? ⟨g, 0, none⟩ = some (.int .i64 (n : Int)) := hg.cellIs rfl
      have d2 : wr.cell? ⟨g, 2, none⟩ = some (.int .i64 (cc : Int)) := hg.cellIs rfl
      have HNX := Lib.hid hnext
      have HG := Lib.hid hg
      have HR := Lib.hid hr
      have HK := Lib.hid hk
      have HX := Lib.hid hx
      have HS1 := Lib.hid hs1
      have HS1L := Lib.hid hs1l
      have HZ1 := Lib.hid hz1
      have HZ2 := Lib.hid hz2
      clear hb hstep hcnt hst hg hr hsl hbl hcell hkk hk2 hx hy1 hy2 hyc hv1 hs1 hs1l hz1 hz2 hv2 hnext hk
      go_wp2_with fail
      go_quiet (fail)
      generalize hq : wr.drewN nq = W1
      have k1 : Kept NoBlk wr W1 := hq ▸ (Kept.refl NoBlk _).drewN _
      have hg1 := HG.out.kept k1 (fun e => e)
      have hr1 := HR.out.kept k1 (fun e => e)
      clear hq d0 d2
      have d3 : W1.cell? ⟨g, 3, none⟩ = some (.slice (some ⟨r, 0, none⟩) n n) := hg1.cellIs rfl
      have d2 : W1.cell? ⟨g, 2, none⟩ = some (.int .i64 (cc : Int)) := hg1.cellIs rfl
      have dx : W1.cell? ⟨r, k, none⟩ = some (.int .u8 (x.toNat : Int)) := hr1.byte HX.out
      have fx : W1.frozen? ⟨r, k, none⟩ = false := hr1.frozen k
      have G1 := Lib.hid hg1
      have R1 := Lib.hid hr1
      have K1 := Lib.hid k1
      clear hg1 hr1 k1
      go_wp2_with fail
      go_region
      generalize hq : (W1.setCell ⟨r, k, none⟩ (.int .u8 (v1.toNat : Int))).drew = W2
      have hr2 : Blk W2 r 5 (s1.map B).toArray := by
        rw [← hq, ← HS1.out]
        exact R1.out.putByte k v1
      have hg2 : Blk W2 g 56 #[.int .i64 n, x1, .int .i64 cc, .slice (some ⟨r, 0, none⟩) n n] := by
        rw [← hq]
        exact G1.out.far (p := ⟨r, k, none⟩) HNE.out _
      have k2' : Kept (Two g r) w W2 := by
        rw [← hq]
        exact ((HK.out.none K1.out).setCell _ _ (fun _ => .inr rfl)).drew
      clear hq d3 d2 dx fx
      have d0 : W2.cell? ⟨g, 0, none⟩ = some (.int .i64 (n : Int)) := hg2.cellIs rfl
      have d2 : W2.cell? ⟨g, 2, none⟩ = some (.int .i64 (cc : Int)) := hg2.cellIs rfl
      have d3 : W2.cell? ⟨g, 3, none⟩ = some (.slice (some ⟨r, 0, none⟩) n n) := hg2.cellIs rfl
      have dx : W2.cell? ⟨r, k2, none⟩ = some (.int .u8 (z1.toNat : Int)) := hr2.byte HZ1.out
      have dy : W2.cell? ⟨r, k, none⟩ = some (.int .u8 (z2.toNat : Int)) := hr2.byte HZ2.out
      have fx : W2.frozen? ⟨r, k2, none⟩ = false := hr2.frozen k2
      have G2 := Lib.hid hg2
      have R2 := Lib.hid hr2
      have K2 := Lib.hid k2'
      clear hg2 hr2 k2' G1 R1 K1
      go_wp2_with fail
      go_region
      generalize hq : (W2.setCell ⟨r, k2, none⟩ (.int .u8 (v2.toNat : Int))).drew = W3
      have hr3 : Blk W3 r 5 ((s1.set k2 v2).map B).toArray := by
        rw [← hq]
        exact R2.out.putByte k2 v2
      have hg3 : Blk W3 g 56 #[.int .i64 n, x1, .int .i64 cc, .slice (some ⟨r, 0, none⟩) n n] := by
        rw [← hq]
        exact G2.out.far (p := ⟨r, k2, none⟩) HNE.out _
      have k3 : Kept (Two g r) w W3 := by
        rw [← hq]
        exact (K2.out.setCell _ _ (fun _ => .inr rfl)).drew
      clear hq d0 d2 d3 dx dy fx
      have d2 : W3.cell? ⟨g, 2, none⟩ = some (.int .i64 (cc : Int)) := hg3.cellIs rfl
      have fx : W3.frozen? ⟨g, 2, none⟩ = false := hg3.frozen 2
      have FIN : Hid (∀ w', w' = W3.setCell ⟨g, 2, none⟩ (.int .i64 ((cc : Int) + 1)) → OwnAt w' g r n x1 (ownRun n cs (p.take (i + 1))) ∧ Kept (Two g r) w w') := Lib.hid (by
        rintro w' rfl
        rw [HNX.out]
        refine ⟨⟨hg3.set_ 2 _, hr3.far (p := ⟨g, 2, none⟩) HNE.out.symm _, by show (s1.set k2 v2).length = n; rw [List.length_set]; exact HS1L.out⟩, k3.setCell _ _ (fun _ => .inl rfl)⟩)
      clear hg3 hr3 k3 G2 R2 K2
      go_wp2_with fail
      go_roundw
      case rel => exact ⟨i + 1, by omega, by go_num, FIN.out _ rfl⟩
      case measure => first | (simp [intOf]; done) | (simp [intOf]; omega)
    · obtain rfl : i = p.length := by omega
      rw [List.take_length] at ho
      have FIN := Lib.hid (And.intro ho hk)
      clear ho hk
      go_wp2_with fail
      go_ret2
      exact ⟨rfl, FIN.out⟩

end Go.Proofs.Ytgkfnmmajehobaa
