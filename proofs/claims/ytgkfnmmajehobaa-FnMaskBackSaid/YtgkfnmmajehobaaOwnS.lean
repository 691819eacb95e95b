/-
  The own hash: Sum.
-/
import Derived.Test.YtgkfnmmajehobaaOwnW
namespace Go.Proofs.Ytgkfnmmajehobaa
open Go.RowKit

/-- Only blocks from N on may have turned. -/
def From (N : Nat) : Nat → Prop := fun b => N ≤ b
theorem OwnAt.kept {w w' : World} {S : Nat → Prop} {g r n : Nat} {x1 : Value} {cs : Nat × List UInt8} (h : OwnAt w g r n x1 cs) (k : Kept S w w') (h1 : ¬ S g) (h2 : ¬ S r) : OwnAt w' g r n x1 cs := ⟨h.1.kept k h1, h.2.1.kept k h2, h.2.2⟩

set_option maxHeartbeats 1600000 in
theorem ownSum_any (g r n N : Nat) (x1 : Value) (cs : Nat × List UInt8) (v : Value) (xs : List UInt8) (w : World) (ho : OwnAt w g r n x1 cs) (hown : w.ownsRow N 5 1 v xs.length (xs.map B)) (hN : N ≤ w.heap.size) (hgN : g < N) (hrN : r < N) (hl : xs.length ≤ 1000000) (hn : n ≤ 16) :
    Calls Try.prog 43 #[.pointer (some ⟨g, 0, none⟩), v] w fun e w' => ∃ v', e = .returned v' ∧ w'.ownsRow N 5 1 v' (xs ++ cs.2.map fun b => b + UInt8.ofNat cs.1).length ((xs ++ cs.2.map fun b => b + UInt8.ofNat cs.1).map B) ∧ Kept (From N) w w' := by
  obtain ⟨cc, s⟩ := cs
  simp only
  have hg := ho.1
  have hr := ho.2.1
  have hsl := ho.2.2
  simp only at hg hr hsl
  have d3 : w.cell? ⟨g, 3, none⟩ = some (.slice (some ⟨r, 0, none⟩) n n) := hg.cellIs rfl
  obtain ⟨D, hD⟩ : ∃ D : List UInt8, (s.map fun b => b + UInt8.ofNat cc) = D := ⟨_, rfl⟩
  rw [hD]
  have HD := Lib.hid hD
  have HG := Lib.hid hg
  have HR := Lib.hid hr
  have HSL := Lib.hid hsl
  have HOW := Lib.hid hown
  clear ho hg hr hsl hown hD
  go_enter Try.func43, Try.ntmps43
  go_wp2_with fail
  go_loopw [1, 12] (fun av iv wr => ∃ i : Nat, i ≤ n ∧ iv = .int .i64 (i : Int) ∧ wr.ownsRow N 5 1 av (xs ++ D.take i).length ((xs ++ D.take i).map B) ∧ Kept (From N) w wr) (fun _ iv _ => n - (intOf iv).toNat)
  case atStart => exact ⟨0, Nat.zero_le _, rfl, by rw [List.take_zero, List.append_nil]; exact HOW.out, Kept.refl _ _⟩
  case round =>
    obtain ⟨i, hi, rfl, ho, hk⟩ := hrel
    have hDl : D.length = n := by rw [← HD.out, List.length_map]; exact HSL.out
    rcases Nat.lt_or_ge i n with hlt | hge
    · obtain ⟨x, hx⟩ := some_at (s := s) (k := i) (by rw [HSL.out]; exact hlt)
      have hz : D[i]? = some (x + UInt8.ofNat cc) := by rw [← HD.out, List.getElem?_map, hx]; rfl
      obtain ⟨z, hzz⟩ : ∃ z, x + UInt8.ofNat cc = z := ⟨_, rfl⟩
      rw [hzz] at hz
      have hzn : (z.toNat : Int) = ((x.toNat : Int) + (cc : Int) % 256) % 256 := by rw [← hzz, UInt8.toNat_add, UInt8.toNat_ofNat']; omega
      have e1 : ((x.toNat : Int) + (cc : Int) % 256) % 256 = (z.toNat : Int) := hzn.symm
      have e2 : ((x.toNat : Int) + (cc : Int)) % 256 = (z.toNat : Int) := by rw [hzn]; omega
      have hg1 := HG.out.kept hk (fun h => by unfold From at h; omega)
      have hr1 := HR.out.kept hk (fun h => by unfold From at h; omega)
      have d2 : wr.cell? ⟨g, 2, none⟩ = some (.int .i64 (cc : Int)) := hg1.cellIs rfl
      have dx : wr.cell? ⟨r, i, none⟩ = some (.int .u8 (x.toNat : Int)) := hr1.byte hx
      have hii : (i : Int) < (n : Int) := Int.ofNat_lt.2 hlt
      have hap : (xs ++ D.take i) ++ [z] = xs ++ D.take (i + 1) := by rw [List.append_assoc, List.take_add_one, hz]; rfl
      have hlen : (xs ++ D.take i).length ≤ 2000000 := by rw [List.length_append, List.length_take]; omega
      obtain ⟨cur, hcur⟩ : ∃ cur, xs ++ D.take i = cur := ⟨_, rfl⟩
      rw [hcur] at ho hap hlen
      have HAP := Lib.hid hap
      have HO := Lib.hid ho
      have HK := Lib.hid hk
      have HLN := Lib.hid hlen
      have hNs : N ≤ wr.heap.size := Nat.le_trans hN hk.size
      clear hx hz hzz hzn hg1 hr1 hap ho hk hcur hlen hDl
      go_wp2_with (at_builtin; refine wpList_append_bytes _ rfl _ _ rfl N _ cur rfl (own_still HO.out ((Kept.refl NoBlk _).alloc _)) _ 1 _ [z] rfl rfl (bytesAt_new _ 5 [z] _ (by simp)) (by have := HLN.out; simp; omega) (by simp; omega) ?_; intro v2 w2 hown2 hgrow)
      go_roundw
      case rel =>
        refine ⟨i + 1, by omega, by go_num, by rw [← HAP.out]; exact hown2, ?_⟩
        exact (HK.out.alloc _).trans (Kept.of_grown hgrow (fun b hb => (HO.out.lt b hb).1))
      case measure => first | (simp [intOf]; done) | (simp [intOf]; omega)
    · obtain rfl : i = n := by omega
      rw [List.take_of_length_le (by omega)] at ho
      have FIN := Lib.hid (And.intro ho hk)
      clear ho hk hDl
      go_wp2_with fail
      go_ret
      exact ⟨_, rfl, FIN.out.1, FIN.out.2⟩

end Go.Proofs.Ytgkfnmmajehobaa
