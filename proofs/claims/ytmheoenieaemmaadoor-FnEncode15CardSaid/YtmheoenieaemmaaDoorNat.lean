/-
  bigmod.Nat in memory; add, sub.
-/
import Derived.Test.YtmheoenieaemmaaDoorLimbs
import Derived.BigQuiet
import Derived.Deep.QuietTactic
import Derived.Deep.RegionWith
namespace Go.Proofs.YtmheoenieaemmaaDoor
open Go.RowKit

/-- The number xs (its words) lies in block p, the words in block b, behind them rest. -/
def NatAt (w : World) (p b : Nat) (xs rest : List Nat) : Prop :=
  Blk w p 134 #[.slice (some ⟨b, 0, none⟩) xs.length (xs.length + rest.length)] ∧ Blk w b 68 ((xs ++ rest).map U).toArray ∧ Wd xs ∧ Wd rest

section
variable {w w' : World} {S : Nat → Prop} {p b g : Nat} {xs rest : List Nat}
theorem NatAt.kept (h : NatAt w p b xs rest) (k : Kept S w w') (hp : ¬ S p) (hb : ¬ S b) : NatAt w' p b xs rest := ⟨h.1.kept k hp, h.2.1.kept k hb, h.2.2⟩
theorem NatAt.still (h : NatAt w p b xs rest) (k : Kept NoBlk w w') : NatAt w' p b xs rest := h.kept k (fun e => e) (fun e => e)
theorem NatAt.lt (h : NatAt w p b xs rest) : p < w.heap.size ∧ b < w.heap.size := ⟨h.1.lt, h.2.1.lt⟩
theorem NatAt.pb (h : NatAt w p b xs rest) : p ≠ b := h.1.ne_ h.2.1 (by decide)
theorem NatAt.cell (h : NatAt w p b xs rest) : w.cell? ⟨p, 0, none⟩ = some (.slice (some ⟨b, 0, none⟩) xs.length (xs.length + rest.length)) := h.1.cellIs rfl
theorem NatAt.limb (h : NatAt w p b xs rest) (i : Nat) (hi : i < xs.length) : w.cell? ⟨b, i, none⟩ = some (.int .u64 (xs[i] : Int)) := h.2.1.cellIs (by
  rw [List.getElem?_toArray, List.getElem?_map, List.getElem?_append_left hi, List.getElem?_eq_getElem hi]; rfl)
end

/-- A row in the middle of being turned: zs is done. -/
def Mid (w : World) (b : Nat) (zs os : List Nat) (k : Nat) : Prop := Blk w b 68 ((zs ++ os.drop k).map U).toArray
theorem Mid.cell {w : World} {b : Nat} {zs os : List Nat} {k : Nat} (h : Mid w b zs os k) (hz : zs.length = k) (hk : k < os.length) : w.cell? ⟨b, k, none⟩ = some (.int .u64 (os[k] : Int)) := h.cellIs (by
  rw [List.getElem?_toArray, List.getElem?_map, List.getElem?_append_right (by omega), hz, Nat.sub_self, List.getElem?_drop, Nat.add_zero, List.getElem?_eq_getElem hk]; rfl)
theorem Mid.set {w w' : World} {b : Nat} {zs os : List Nat} {k : Nat} (h : Mid w b zs os k) (hz : zs.length = k) (hk : k < os.length) (z : Nat) (hw : w' = w.setCell ⟨b, k, none⟩ (.int .u64 (z : Int))) : Mid w' b (zs ++ [z]) os (k + 1) := by
  subst hw
  have h1 := Blk.set_ h k (.int .u64 (z : Int))
  unfold Mid
  rw [List.drop_eq_getElem_cons hk] at h1
  have e : ((zs ++ os[k] :: os.drop (k + 1)).map U).toArray.setIfInBounds k (.int .u64 (z : Int)) = ((zs ++ [z] ++ os.drop (k + 1)).map U).toArray := by
    subst hz
    rw [List.map_append, List.map_cons, List.setIfInBounds_toArray, List.set_append_right _ _ (by simp)]
    simp only [List.length_map, Nat.sub_self, List.set_cons_zero, List.map_append, List.map_cons, List.append_assoc, List.cons_append, List.nil_append, U]
  rw [e] at h1
  exact h1
theorem Mid.frozen {w : World} {b : Nat} {zs os : List Nat} {k : Nat} (h : Mid w b zs os k) (i : Nat) : w.frozen? ⟨b, i, none⟩ = false := Blk.frozen h i
theorem Mid.drew {w : World} {b : Nat} {zs os : List Nat} {k : Nat} (h : Mid w b zs os k) : Mid w.drew b zs os k := h
theorem Mid.drewN {w : World} {b : Nat} {zs os : List Nat} {k : Nat} (h : Mid w b zs os k) (n : Nat) : Mid (w.drewN n) b zs os k := h
theorem NatAt.mid {w : World} {p b : Nat} {xs rest : List Nat} (h : NatAt w p b xs rest) : Mid w b [] (xs ++ rest) 0 := by
  have := h.2.1
  simpa [Mid] using this
theorem Mid.done {w w0 : World} {p b : Nat} {xs rest zs : List Nat} (h : Mid w b zs (xs ++ rest) xs.length) (hn : NatAt w0 p b xs rest) (k : Kept (OneBlk b) w0 w) (hz : zs.length = xs.length) (hw : Wd zs) : NatAt w p b zs rest := by
  refine ⟨?_, ?_, hw, hn.2.2.2⟩
  · rw [hz]; exact hn.1.kept k hn.pb
  · have := h
    unfold Mid at this
    rw [List.drop_left] at this
    exact this

/-- The other number's words, while a row is turned: they are another row's, or that row's own. -/
theorem other_limb {w wr : World} {p b p' b' : Nat} {xs rest ys rest' zs : List Nat} {k : Nat} (hx : NatAt w p b xs rest) (hy : NatAt w p' b' ys rest') (hl : xs.length = ys.length) (hb : b ≠ b' ∨ b = b' ∧ xs = ys)
    (hm : Mid wr b zs (xs ++ rest) k) (hk : Kept (OneBlk b) w wr) (hz : zs.length = k) (hlt : k < xs.length) : wr.cell? ⟨b', k, none⟩ = some (.int .u64 ((ys[k]'(by omega)) : Int)) := by
  rcases hb with hb | ⟨rfl, rfl⟩
  · exact (hy.kept hk (fun e => hx.1.lt |> fun _ => (by
      have h1 := hy.1
      have h2 := hx.2.1
      exact h1.ne_ h2 (by decide) e)) (fun e => hb e.symm)).limb k (by omega)
  · have := hm.cell hz (by simp; omega)
    rw [this, List.getElem_append_left hlt]

theorem nat_add (p b p' b' : Nat) (xs rest ys rest' : List Nat) (w : World) (hx : NatAt w p b xs rest) (hy : NatAt w p' b' ys rest') (hl : xs.length = ys.length) (hb : b ≠ b' ∨ b = b' ∧ xs = ys) (hn' : ys.length + rest'.length ≤ 1000000) :
    Calls Tryd.prog 117 #[.pointer (some ⟨p, 0, none⟩), .pointer (some ⟨p', 0, none⟩)] w fun e w' =>
      ∃ (zs : List Nat) (c : Nat), e = .returned (.int .u64 c) ∧ c ≤ 1 ∧ zs.length = xs.length ∧ val zs + Pw xs.length * c = val xs + val ys ∧ NatAt w' p b zs rest ∧ Kept (OneBlk b) w w' := by
  have c1 := hx.cell
  have c2 := hy.cell
  have HX := Lib.hid hx
  have HY := Lib.hid hy
  have HL := Lib.hid hl
  have HB := Lib.hid hb
  have hle : xs.length ≤ ys.length + rest'.length := by omega
  clear hx hy hl hb
  go_enter Tryd.func117, Tryd.ntmps117
  go_wp2_with fail
  go_loopw [4, 8] (fun cv iv wr => ∃ (k : Nat) (zs : List Nat) (c : Nat), k ≤ xs.length ∧ cv = .int .u64 c ∧ iv = .int .i64 k ∧ c ≤ 1 ∧ zs.length = k ∧ Wd zs ∧ val zs + Pw k * c = val (xs.take k) + val (ys.take k) ∧ Mid wr b zs (xs ++ rest) k ∧ Kept (OneBlk b) w wr) (fun _ i _ => xs.length - (intOf i).toNat)
  case atStart => exact ⟨0, [], 0, Nat.zero_le _, rfl, rfl, by omega, rfl, Wd.nil, by simp [val], HX.out.mid, Kept.refl _ _⟩
  case round =>
    obtain ⟨k, zs, c, hk, rfl, rfl, hc, hz, hwz, hv, hm, hkept⟩ := hrel
    by_cases hlt : k < xs.length
    · have cy := other_limb HX.out HY.out HL.out HB.out hm hkept hz hlt
      have cx := hm.cell hz (by simp; omega)
      rw [List.getElem_append_left hlt] at cx
      have hkl : k < ys.length := by have := HL.out; omega
      have wx : xs[k] < 18446744073709551616 := HX.out.2.2.1.get k hlt
      have wy : ys[k] < 18446744073709551616 := HY.out.2.2.1.get k hkl
      obtain ⟨s, c', hs, hsl⟩ : ∃ s c', xs[k] + ys[k] + c = s + 18446744073709551616 * c' ∧ s < 18446744073709551616 := ⟨(xs[k] + ys[k] + c) % 18446744073709551616, (xs[k] + ys[k] + c) / 18446744073709551616, by omega, by omega⟩
      have hadd := bitsAdd_is xs[k] ys[k] c s c' hc hsl hs
      have hc' : c' ≤ 1 := by omega
      have hv' : val (zs ++ [s]) + Pw (k + 1) * c' = val (xs.take (k + 1)) + val (ys.take (k + 1)) := by
        rw [val_snoc, val_take_succ xs k hlt, val_take_succ ys k hkl, hz, Pw_succ]
        have : Pw k * xs[k] + Pw k * ys[k] + Pw k * c = Pw k * s + Pw k * (18446744073709551616 * c') := by
          rw [← Nat.mul_add, ← Nat.mul_add, ← Nat.mul_add, hs]
        rw [Nat.mul_comm 18446744073709551616 (Pw k), Nat.mul_assoc]; omega
      have hf := hm.frozen k
      have hset := fun w' h => hm.set hz (by simp; omega) s (w' := w') h
      have HADD := Lib.hid hadd
      have HV := Lib.hid hv'
      have HSET := Lib.hid hset
      have HZ := Lib.hid hz
      have HWZ := Lib.hid (hwz.snoc hsl)
      have HK := Lib.hid hkept
      clear hadd hv hv' hset hz hwz hkept hm hs
      go_wp2_with fail
      go_region_with (go_at_call 125; refine (HADD.out _).mono ?_; rintro e w' ⟨rfl, rfl⟩)
      go_wp2_with fail
      all_goals
        go_roundw
        case rel => exact ⟨k + 1, zs ++ [s], c', by omega, rfl, by go_num, hc', by rw [List.length_append, HZ.out]; rfl, HWZ.out, HV.out, (HSET.out _ rfl).drew, (HK.out.setOne _ _).drew⟩
        case measure => simp [intOf]; omega
    · obtain rfl : k = xs.length := by omega
      have HD := Lib.hid (hm.done HX.out hkept hz hwz)
      have HK := Lib.hid hkept
      have hl := HL.out
      rw [List.take_of_length_le (Nat.le_refl _), hl, List.take_of_length_le (Nat.le_refl _)] at hv
      have HV := Lib.hid hv
      clear hm hkept hv hl
      go_wp2_with fail
      go_ret
      exact ⟨zs, c, rfl, hc, hz, by have := HL.out; rw [this]; exact HV.out, HD.out, HK.out⟩


theorem nat_sub (p b p' b' : Nat) (xs rest ys rest' : List Nat) (w : World) (hx : NatAt w p b xs rest) (hy : NatAt w p' b' ys rest') (hl : xs.length = ys.length) (hb : b ≠ b' ∨ b = b' ∧ xs = ys) (hn' : ys.length + rest'.length ≤ 1000000) :
    Calls Tryd.prog 116 #[.pointer (some ⟨p, 0, none⟩), .pointer (some ⟨p', 0, none⟩)] w fun e w' =>
      ∃ (zs : List Nat) (c : Nat), e = .returned (.int .u64 c) ∧ c ≤ 1 ∧ zs.length = xs.length ∧ val zs + val ys = val xs + Pw xs.length * c ∧ NatAt w' p b zs rest ∧ Kept (OneBlk b) w w' := by
  have c1 := hx.cell
  have c2 := hy.cell
  have HX := Lib.hid hx
  have HY := Lib.hid hy
  have HL := Lib.hid hl
  have HB := Lib.hid hb
  have hle : xs.length ≤ ys.length + rest'.length := by omega
  clear hx hy hl hb
  go_enter Tryd.func116, Tryd.ntmps116
  go_wp2_with fail
  go_loopw [4, 8] (fun cv iv wr => ∃ (k : Nat) (zs : List Nat) (c : Nat), k ≤ xs.length ∧ cv = .int .u64 c ∧ iv = .int .i64 k ∧ c ≤ 1 ∧ zs.length = k ∧ Wd zs ∧ val zs + val (ys.take k) = val (xs.take k) + Pw k * c ∧ Mid wr b zs (xs ++ rest) k ∧ Kept (OneBlk b) w wr) (fun _ i _ => xs.length - (intOf i).toNat)
  case atStart => exact ⟨0, [], 0, Nat.zero_le _, rfl, rfl, by omega, rfl, Wd.nil, by simp [val], HX.out.mid, Kept.refl _ _⟩
  case round =>
    obtain ⟨k, zs, c, hk, rfl, rfl, hc, hz, hwz, hv, hm, hkept⟩ := hrel
    by_cases hlt : k < xs.length
    · have cy := other_limb HX.out HY.out HL.out HB.out hm hkept hz hlt
      have cx := hm.cell hz (by simp; omega)
      rw [List.getElem_append_left hlt] at cx
      have hkl : k < ys.length := by have := HL.out; omega
      have wx : xs[k] < 18446744073709551616 := HX.out.2.2.1.get k hlt
      have wy : ys[k] < 18446744073709551616 := HY.out.2.2.1.get k hkl
      obtain ⟨s, c', hs, hsl⟩ : ∃ s c', xs[k] + 18446744073709551616 * c' = s + ys[k] + c ∧ s < 18446744073709551616 := ⟨(xs[k] + 18446744073709551616 + 18446744073709551616 - ys[k] - c) % 18446744073709551616, if xs[k] < ys[k] + c then 1 else 0, by split <;> omega, by omega⟩
      have hadd := bitsSub_is xs[k] ys[k] c s c' hc hsl wx wy hs
      have hc' : c' ≤ 1 := by omega
      have hv' : val (zs ++ [s]) + val (ys.take (k + 1)) = val (xs.take (k + 1)) + Pw (k + 1) * c' := by
        rw [val_snoc, val_take_succ xs k hlt, val_take_succ ys k hkl, hz, Pw_succ]
        have : Pw k * xs[k] + Pw k * (18446744073709551616 * c') = Pw k * s + Pw k * ys[k] + Pw k * c := by
          rw [← Nat.mul_add, ← Nat.mul_add, ← Nat.mul_add, hs]
        rw [Nat.mul_comm 18446744073709551616 (Pw k), Nat.mul_assoc]; omega
      have hf := hm.frozen k
      have hset := fun w' h => hm.set hz (by simp; omega) s (w' := w') h
      have HADD := Lib.hid hadd
      have HV := Lib.hid hv'
      have HSET := Lib.hid hset
      have HZ := Lib.hid hz
      have HWZ := Lib.hid (hwz.snoc hsl)
      have HK := Lib.hid hkept
      clear hadd hv hv' hset hz hwz hkept hm hs
      go_wp2_with fail
      go_region_with (go_at_call 107; refine (HADD.out _).mono ?_; rintro e w' ⟨rfl, rfl⟩)
      go_wp2_with fail
      all_goals
        go_roundw
        case rel => exact ⟨k + 1, zs ++ [s], c', by omega, rfl, by go_num, hc', by rw [List.length_append, HZ.out]; rfl, HWZ.out, HV.out, (HSET.out _ rfl).drew, (HK.out.setOne _ _).drew⟩
        case measure => simp [intOf]; omega
    · obtain rfl : k = xs.length := by omega
      have HD := Lib.hid (hm.done HX.out hkept hz hwz)
      have HK := Lib.hid hkept
      have hl := HL.out
      rw [List.take_of_length_le (Nat.le_refl _), hl, List.take_of_length_le (Nat.le_refl _)] at hv
      have HV := Lib.hid hv
      clear hm hkept hv hl
      go_wp2_with fail
      go_ret
      exact ⟨zs, c, rfl, hc, hz, by have := HL.out; rw [this]; exact HV.out, HD.out, HK.out⟩

end Go.Proofs.YtmheoenieaemmaaDoor
