/-
  rsa.ZZMGF1 over either hash (printed by gen_zz.py).
-/
import Derived.Test.YtgkfnmmajehobaaMgfOwn
import Derived.Test.YtgkfnmmajehobaaMgfSha
namespace Go.Proofs.Ytgkfnmmajehobaa
open Go.RowKit

/-- A row of bytes that a call owns: nothing, or a whole block. -/
theorem own_out {w : World} {N : Nat} {v : Value} {xs : List UInt8} (h : w.ownsRow N 5 1 v xs.length (xs.map B)) :
    (xs = [] ∧ v = .slice none 0 0) ∨ ∃ g cap sp, v = .slice (some ⟨g, 0, none⟩) xs.length cap ∧ xs.length ≤ cap ∧ N ≤ g ∧ OutAt w g xs sp := by
  obtain ⟨hl, hn | ⟨g, cap, cur, he, hb, hg, hnc, hcm, hcs, ht⟩⟩ := h
  · obtain ⟨he, h0⟩ := hn
    exact .inl ⟨List.length_eq_zero_iff.1 h0, he⟩
  · refine .inr ⟨g, cap, cur.toList.drop xs.length, he, hnc, hb, ?_⟩
    unfold OutAt Blk
    rw [hg]
    congr 2
    rw [← ht]
    simp

theorem mgf_nil (hv : Value) (sv : Value) (w : World) : Calls Try.prog 10 #[.slice none 0 0, hv, sv] w fun e w' => e = .returned (.tuple #[]) ∧ Kept NoBlk w w' := by
  go_enter Try.func10, Try.ntmps10
  go_wp2_with fail
  go_loopw [7, 8] (fun dv iv wr => iv = .int .i64 0 ∧ Kept NoBlk w wr) (fun _ _ _ => 0)
  case atStart => exact ⟨rfl, (Kept.refl _ w).alloc _⟩
  case round =>
    obtain ⟨rfl, hk⟩ := hrel
    go_wp2_with fail
    refine bodyPost_end (results_none rfl _ _ _) rfl ?_
    exact ⟨rfl, hk⟩

theorem zz_own {o hl : Nat} {H R : Nat → Prop} {Any : World → Prop} {St : World → List (List UInt8) → Prop} {F : List (List UInt8) → List UInt8} (hz : Hasher 15 44 43 o H R hl Any St F)
    (w : World) (A : Option Addr) (c : Nat) (data : List UInt8) (SA : Option Addr) (sc : Nat) (seed : List UInt8) (hd : BytesAt w A data) (hs : BytesAt w SA seed) (ha : Any w) (hlt : ∀ b, H b ∨ R b → b < w.heap.size) (hsa : ∀ a, SA = some a → a.block < w.heap.size ∧ ¬ (H a.block ∨ R a.block))
    (hl1 : 1 ≤ hl) (hl2 : hl ≤ 64) (hdl : data.length ≤ 65536) (hsl : seed.length ≤ 65536) (hsc : seed.length ≤ sc) :
    Calls Try.prog 7 #[.slice A data.length c, .iface 40 (.pointer (some ⟨o, 0, none⟩)), .slice SA seed.length sc] w fun e w' => ∃ A2 c2, e = .returned (.slice A2 data.length c2) ∧ data.length ≤ c2 ∧ BytesAt w' A2 (xorS (mgfS F hl seed) data) ∧ Kept H w w' := by
  have HZ := Lib.hid hz
  have HS := Lib.hid hs
  have HA := Lib.hid ha
  have HLT := Lib.hid hlt
  have HSA := Lib.hid hsa
  have HSC := Lib.hid hsc
  clear hz hs ha hlt hsa hsc
  go_enter Try.func7, Try.ntmps7
  go_wp2_with (at_builtin; refine wpList_append_bytes _ rfl _ _ rfl w.heap.size (.slice none 0 0) [] rfl (World.ownsRow_nil _ _ _ _) A c _ data rfl rfl hd (by simp; omega) (Nat.le_refl _) ?_; intro v1 w1 hown hgrow)
  rw [List.nil_append] at hown
  have k1 : Kept NoBlk w w1 := Kept.of_grown hgrow (fun g hg => by cases hg)
  rcases own_out hown with ⟨h0, rfl⟩ | ⟨ob, cap, sp, rfl, hcap, hob, hout⟩
  · have HM := Lib.hid (mgf_nil (.iface 40 (.pointer (some ⟨o, 0, none⟩))) (.slice SA seed.length sc) w1)
    have K1 := Lib.hid k1
    clear k1 hgrow hown hd
    go_wp2_with fail
    refine HM.out.mono ?_
    rintro e w2 ⟨rfl, k2⟩
    have K2 := Lib.hid (K1.out.none k2)
    clear k2 HM
    go_wp2_with fail
    go_ret
    subst h0
    exact ⟨none, 0, rfl, Nat.le_refl _, BytesAt.nil _ _, K2.out.mono (fun _ _ e => e.elim)⟩
  · have HM := Lib.hid (mgf_own HZ.out w1 ob cap data sp SA sc seed hout (HS.out.still k1) (HZ.out.anyKept HA.out k1 (fun _ _ e => e)) (fun b h => Nat.lt_of_lt_of_le (HLT.out b h) k1.size) (fun h => by have := HLT.out _ h; omega) (fun a e => ⟨by have := (HSA.out a e).1; omega, (HSA.out a e).2⟩) hl1 hl2 hdl hsl HSC.out)
    have K1 := Lib.hid k1
    clear k1 hgrow hown hd hout
    go_wp2_with fail
    refine HM.out.mono ?_
    rintro e w2 ⟨rfl, hout, k2⟩
    have hxl := xorS_length (mgfS F hl seed) data
    have FIN := Lib.hid (And.intro hout.bytes (Kept.step (S := H) (K1.out.mono (fun _ _ e => e.elim)) k2 (fun i hi h => by rcases h with h | h; omega; exact h)))
    clear k2 HM hout
    go_wp2_with fail
    go_ret
    exact ⟨_, _, rfl, hcap, FIN.out.1, FIN.out.2⟩

theorem zz_sha {o hl : Nat} {H R : Nat → Prop} {Any : World → Prop} {St : World → List (List UInt8) → Prop} {F : List (List UInt8) → List UInt8} (hz : Hasher 14 34 33 o H R hl Any St F)
    (w : World) (A : Option Addr) (c : Nat) (data : List UInt8) (SA : Option Addr) (sc : Nat) (seed : List UInt8) (hd : BytesAt w A data) (hs : BytesAt w SA seed) (ha : Any w) (hlt : ∀ b, H b ∨ R b → b < w.heap.size) (hsa : ∀ a, SA = some a → a.block < w.heap.size ∧ ¬ (H a.block ∨ R a.block))
    (hl1 : 1 ≤ hl) (hl2 : hl ≤ 64) (hdl : data.length ≤ 65536) (hsl : seed.length ≤ 65536) (hsc : seed.length ≤ sc) :
    Calls Try.prog 7 #[.slice A data.length c, .iface 38 (.pointer (some ⟨o, 0, none⟩)), .slice SA seed.length sc] w fun e w' => ∃ A2 c2, e = .returned (.slice A2 data.length c2) ∧ data.length ≤ c2 ∧ BytesAt w' A2 (xorS (mgfS F hl seed) data) ∧ Kept H w w' := by
  have HZ := Lib.hid hz
  have HS := Lib.hid hs
  have HA := Lib.hid ha
  have HLT := Lib.hid hlt
  have HSA := Lib.hid hsa
  have HSC := Lib.hid hsc
  clear hz hs ha hlt hsa hsc
  go_enter Try.func7, Try.ntmps7
  go_wp2_with (at_builtin; refine wpList_append_bytes _ rfl _ _ rfl w.heap.size (.slice none 0 0) [] rfl (World.ownsRow_nil _ _ _ _) A c _ data rfl rfl hd (by simp; omega) (Nat.le_refl _) ?_; intro v1 w1 hown hgrow)
  rw [List.nil_append] at hown
  have k1 : Kept NoBlk w w1 := Kept.of_grown hgrow (fun g hg => by cases hg)
  rcases own_out hown with ⟨h0, rfl⟩ | ⟨ob, cap, sp, rfl, hcap, hob, hout⟩
  · have HM := Lib.hid (mgf_nil (.iface 38 (.pointer (some ⟨o, 0, none⟩))) (.slice SA seed.length sc) w1)
    have K1 := Lib.hid k1
    clear k1 hgrow hown hd
    go_wp2_with fail
    refine HM.out.mono ?_
    rintro e w2 ⟨rfl, k2⟩
    have K2 := Lib.hid (K1.out.none k2)
    clear k2 HM
    go_wp2_with fail
    go_ret
    subst h0
    exact ⟨none, 0, rfl, Nat.le_refl _, BytesAt.nil _ _, K2.out.mono (fun _ _ e => e.elim)⟩
  · have HM := Lib.hid (mgf_sha HZ.out w1 ob cap data sp SA sc seed hout (HS.out.still k1) (HZ.out.anyKept HA.out k1 (fun _ _ e => e)) (fun b h => Nat.lt_of_lt_of_le (HLT.out b h) k1.size) (fun h => by have := HLT.out _ h; omega) (fun a e => ⟨by have := (HSA.out a e).1; omega, (HSA.out a e).2⟩) hl1 hl2 hdl hsl HSC.out)
    have K1 := Lib.hid k1
    clear k1 hgrow hown hd hout
    go_wp2_with fail
    refine HM.out.mono ?_
    rintro e w2 ⟨rfl, hout, k2⟩
    have hxl := xorS_length (mgfS F hl seed) data
    have FIN := Lib.hid (And.intro hout.bytes (Kept.step (S := H) (K1.out.mono (fun _ _ e => e.elim)) k2 (fun i hi h => by rcases h with h | h; omega; exact h)))
    clear k2 HM hout
    go_wp2_with fail
    go_ret
    exact ⟨_, _, rfl, hcap, FIN.out.1, FIN.out.2⟩

end Go.Proofs.Ytgkfnmmajehobaa
