/-
  rsa.mgf1XOR over a hash of type *sha256.Digest (printed by gen_mgf.py).
-/
import Derived.Test.YtgkfnmmajehobaaHasher
import Derived.Deep.RegionHeld3
namespace Go.Proofs.Ytgkfnmmajehobaa
open Go.RowKit

theorem sha_nilAhead_write (n : Nat) (a : Addr) (w : World) : (nilAhead (n + 1) 38 (.pointer (some a)) "Write").run Try.prog w = .ok (some false) w := by kernel_rfl
theorem sha_nilAhead_sum (n : Nat) (a : Addr) (w : World) : (nilAhead (n + 1) 38 (.pointer (some a)) "Sum").run Try.prog w = .ok (some false) w := by kernel_rfl
theorem sha_method_reset (n : Nat) (a : Addr) (w : World) : (method (n + 1) 38 (.pointer (some a)) "Reset").run Try.prog w = .ok (14, .pointer (some a)) w := by kernel_rfl
theorem sha_method_write (n : Nat) (a : Addr) (w : World) : (method (n + 1) 38 (.pointer (some a)) "Write").run Try.prog w = .ok (34, .pointer (some a)) w := by kernel_rfl
theorem sha_method_sum (n : Nat) (a : Addr) (w : World) : (method (n + 1) 38 (.pointer (some a)) "Sum").run Try.prog w = .ok (33, .pointer (some a)) w := by kernel_rfl

set_option maxHeartbeats 2000000 in
set_option maxRecDepth 20000 in
theorem mgf_sha {o hl : Nat} {H R : Nat → Prop} {Any : World → Prop} {St : World → List (List UInt8) → Prop} {F : List (List UInt8) → List UInt8} (hz : Hasher 14 34 33 o H R hl Any St F)
    (w : World) (ob cap : Nat) (xs : List UInt8) (sp : List Value) (SA : Option Addr) (sc : Nat) (seed : List UInt8) (ho : OutAt w ob xs sp) (hs : BytesAt w SA seed) (ha : Any w) (hlt : ∀ b, H b ∨ R b → b < w.heap.size) (hob : ¬ (H ob ∨ R ob)) (hsa : ∀ a, SA = some a → a.block ≠ ob ∧ ¬ (H a.block ∨ R a.block))
    (hl1 : 1 ≤ hl) (hl2 : hl ≤ 64) (hxl : xs.length ≤ 65536) (hsl : seed.length ≤ 65536) (hscap : seed.length ≤ sc) :
    Calls Try.prog 10 #[.slice (some ⟨ob, 0, none⟩) xs.length cap, .iface 38 (.pointer (some ⟨o, 0, none⟩)), .slice SA seed.length sc] w fun e w' => e = .returned (.tuple #[]) ∧ OutAt w' ob (xorS (mgfS F hl seed) xs) sp ∧ Kept (fun b => b = ob ∨ H b) w w' := by
  obtain ⟨w1, hw1⟩ : ∃ w1, w.alloc (.cells #[.int .u8 0, .int .u8 0, .int .u8 0, .int .u8 0] 42) = w1 := ⟨_, rfl⟩
  have hcb : Blk w1 w.heap.size 42 (be4 (0 : Nat)) := by
    rw [← hw1]
    exact Blk.new w _ _
  have k01 : Kept NoBlk w w1 := by rw [← hw1]; exact (Kept.refl _ w).alloc _
  have hsz : w1.heap.size = w.heap.size + 1 := by rw [← hw1]; simp
  obtain ⟨cb, hcbn⟩ : ∃ cb, w.heap.size = cb := ⟨_, rfl⟩
  obtain ⟨N, hN⟩ : ∃ N, w1.heap.size = N := ⟨_, rfl⟩
  have hoblt : ob < w.heap.size := Blk.lt ho
  rw [hcbn] at hlt hoblt hsz hcb
  rw [hN] at hsz
  obtain ⟨S, hS⟩ : ∃ S : Nat → UInt8, mgfS F hl seed = S := ⟨_, rfl⟩
  rw [hS]
  have HS := Lib.hid hS
  have FL := Lib.hid hz.flen
  -- the blocks that turn here
  obtain ⟨TB, hTB⟩ : ∃ TB : Nat → Prop, TB = fun b => b = ob ∨ b = cb ∨ H b ∨ N ≤ b := ⟨_, rfl⟩
  have tH : ∀ b, H b → TB b := fun b h => by rw [hTB]; exact .inr (.inr (.inl h))
  have tN : ∀ b, N ≤ b → TB b := fun b h => by rw [hTB]; exact .inr (.inr (.inr h))
  have tO : TB ob := by rw [hTB]; exact .inl rfl
  have tC : TB cb := by rw [hTB]; exact .inr (.inl rfl)
  have FI : Hid (∀ w', Kept TB w1 w' → Kept (fun b => b = ob ∨ H b) w w') := Lib.hid (fun w' k => Kept.step (S := fun b => b = ob ∨ H b) (k01.mono (fun _ _ h => h.elim)) k (fun i hi h => by
    rw [hTB] at h
    rcases h with h | h | h | h
    · exact .inl h
    · omega
    · exact .inr h
    · omega))
  have SEED : Hid (∀ w', Kept TB w1 w' → BytesAt w' SA seed) := Lib.hid (fun w' k => by
    cases seed with
    | nil => exact BytesAt.nil _ _
    | cons s0 ss =>
      obtain ⟨b, off, rfl, hb, _⟩ := hs.at_ (k := 0) (by simp)
      have hb1 := hsa _ rfl
      refine (hs.still k01).kept k ?_
      rintro a e h
      cases e
      rw [hTB] at h
      rcases h with h | h | h | h
      · exact hb1.1 h
      · have h2 : b = cb := h
        omega
      · exact hb1.2 (.inl h)
      · have h2 : N ≤ b := h
        omega)
  have SAH := Lib.hid (fun a e => (hsa a e).2)
  have NTB : Hid (∀ b, H b ∨ R b → b < N) := Lib.hid (fun b h => by have := hlt b h; omega)
  have NEC : Hid (¬ (H cb ∨ R cb)) := Lib.hid (fun h => by have := hlt _ h; omega)
  have CNE : Hid (cb ≠ ob ∧ ob < N ∧ cb < N ∧ w1.heap.size = N) := Lib.hid ⟨by omega, by omega, by omega, hN⟩
  have HNO := Lib.hid hob
  have TBH := Lib.hid tH
  have TBN := Lib.hid tN
  have TBO := Lib.hid tO
  have TBC := Lib.hid tC
  have hany1 := hz.anyKept ha k01 (fun _ _ h => h)
  have ho1 := ho.kept k01 (fun h => h)
  have HZ := Lib.hid hz
  have ANY1 := Lib.hid hany1
  have OUT1 := Lib.hid ho1
  have CB1 := Lib.hid hcb
  have hmr := sha_method_reset
  have hmw := sha_method_write
  have hms := sha_method_sum
  have hnw := sha_nilAhead_write
  have hns := sha_nilAhead_sum
  clear hz ho hs ha hlt hob hsa hcb k01 hsz hS hTB tH tN tO tC hany1 ho1 hoblt hN
  go_enter Try.func10, Try.ntmps10
  go_wp2_with fail
  go_loopw [7, 8] (fun dv iv wr => ∃ (c L cd d : Nat) (A : Option Addr) (ds : List UInt8), dv = .slice A L cd ∧ iv = .int .i64 (d : Int) ∧ d ≤ xs.length ∧ (d < xs.length → d = c * hl) ∧ (d = xs.length → xs.length ≤ c * hl) ∧ OutAt wr ob (partS S xs (c * hl)) sp ∧ wr.ownsRow N 5 1 (.slice A L cd) L (ds.map B) ∧ Any wr ∧ Blk wr cb 42 (be4 (c : Nat)) ∧ Kept TB w1 wr) (fun _ iv _ => xs.length - (intOf iv).toNat)
  case atStart => exact ⟨0, 0, 0, 0, none, [], rfl, rfl, Nat.zero_le _, fun _ => by omega, fun h => by omega, by rw [Nat.zero_mul, partS_zero]; exact OUT1.out, World.ownsRow_nil _ _ _ _, ANY1.out, CB1.out, Kept.refl _ _⟩
  case round =>
    obtain ⟨c, L, cd, d, A, ds, rfl, rfl, hdl, hd1, hd2, hout, hown, hany, hcb, hk⟩ := hrel
    rcases Nat.lt_or_ge d xs.length with hlt | hge
    · obtain rfl : d = c * hl := hd1 hlt
      obtain ⟨d, hd⟩ : ∃ d, c * hl = d := ⟨_, rfl⟩
      rw [hd] at hlt hout hdl ⊢
      have HDD := Lib.hid hd
      have C1 := Lib.hid (HZ.out.reset wr hany)
      have hdi : (d : Int) < (xs.length : Int) := Int.ofNat_lt.2 hlt
      have OUT := Lib.hid hout
      have OWN := Lib.hid hown
      have CB := Lib.hid hcb
      have KW := Lib.hid hk
      clear hd1 hd2 hout hown hany hcb hk hd
      go_wp2_with fail
      refine C1.out.mono ?_
      rintro e w2 ⟨rfl, hst, k2⟩
      have k02 : Kept TB w1 w2 := KW.out.trans (k2.mono (fun b _ h => TBH.out b h))
      have C2 := Lib.hid (HZ.out.write w2 [] SA sc seed hst (SEED.out w2 k02) SAH.out hscap hsl (by simp))
      have K2 := Lib.hid k2
      have K02 := Lib.hid k02
      clear hst k2 k02 C1
      go_wp2_with fail
      refine C2.out.mono ?_
      rintro e w3 ⟨rfl, hst, k3⟩
      have k03 : Kept TB w1 w3 := K02.out.trans (k3.mono (fun b _ h => TBH.out b h))
      have kr3 : Kept H wr w3 := K2.out.trans k3
      have hcb3 := CB.out.kept kr3 (fun h => NEC.out (.inl h))
      have hctr : BytesAt w3.drew (some ⟨cb, 0, none⟩) (ctr c) := by
        rw [ctr_be4] at hcb3
        exact hcb3.drew.at_ _ (fun j u hu => by rw [List.getElem?_toArray]; exact hu)
      have hst3 := HZ.out.stKept hst (Kept.refl NoBlk w3).drew (fun _ _ h => h)
      have hc3 := HZ.out.write w3.drew _ (some ⟨cb, 0, none⟩) 4 (ctr c) hst3 hctr (fun a e => by cases e; exact NEC.out) (Nat.le_refl 4) (by simp [ctr]) (by simp; omega)
      rw [ctr_length, show (([] ++ [seed] ++ [ctr c]) : List (List UInt8)) = [seed, ctr c] from rfl] at hc3
      have C3 := Lib.hid hc3
      have KR3 := Lib.hid kr3
      have K03 := Lib.hid k03
      clear hst k3 k03 kr3 hcb3 hctr hst3 C2 K2 K02 hc3
      go_wp2_with fail
      go_region_held3 (fun _ => True) (trivial) (first | (go_at_call 34; refine C3.out.mono ?_; rintro e w4 ⟨rfl, hst, k4⟩))
      have kr4 : Kept H wr w4 := KR3.out.trans ((Kept.refl H w3).drew.trans k4)
      have k04 : Kept TB w1 w4 := K03.out.trans (((Kept.refl TB w3).drew).trans (k4.mono (fun b _ h => TBH.out b h)))
      have hown4 : w4.ownsRow N 5 1 (.slice A L cd) L (ds.map B) := own_kept OWN.out kr4 (fun b hb h => by
        have h1 := (OWN.out.lt b hb).1
        have h2 := NTB.out b (.inl h)
        omega)
      have hn4 : N ≤ w4.drew.heap.size := by
        have h1 := k04.size
        have h2 := CNE.out
        show N ≤ w4.heap.size
        omega
      have hst4 := HZ.out.stKept hst (Kept.refl NoBlk w4).drew (fun _ _ h => h)
      have hc4 := HZ.out.sum w4.drew [seed, ctr c] N (.slice A 0 cd) [] hst4 (own_still (own_none hown4) ((Kept.refl NoBlk w4).drew)) hn4 NTB.out (by simp) (by simp [ctr]; omega)
      rw [List.nil_append, FL.out] at hc4
      have C4 := Lib.hid hc4
      have ANY4 := Lib.hid (HZ.out.stAny hst4)
      have KR4 := Lib.hid kr4
      have K04 := Lib.hid k04
      clear hst k4 kr4 k04 hown4 hn4 hst4 hc4 C3 KR3 K03
      go_wp2_with fail
      go_region_held3 (fun _ => True) (trivial) (first | (go_at_call 33; refine C4.out.mono ?_; rintro e w5 ⟨v5, rfl, hown5, k5⟩; obtain ⟨A5, c5, rfl, hc5, hm5, hat5, hb5⟩ := own_form hown5))
      obtain ⟨g5, rfl, hg5, hg5l⟩ := hb5 (by omega)
      obtain ⟨f5, hf5⟩ : ∃ f5, F [seed, ctr c] = f5 := ⟨_, rfl⟩
      have hf5l : f5.length = hl := by rw [← hf5]; exact FL.out _
      have hsc : ∀ i z, f5[i]? = some z → S (d + i) = z := by
        intro i z h
        have hi : i < hl := by
          rcases Nat.lt_or_ge i f5.length with h1 | h1
          · omega
          · rw [List.getElem?_eq_none h1] at h; cases h
        rw [← HS.out, ← HDD.out]
        exact mgfS_at hi (by rw [hf5]; exact h)
      rw [hf5] at hown5 hat5
      have hobN := CNE.out
      have hout5 : OutAt w5 ob (partS S xs d) sp := by
        have h1 := OUT.out.kept KR4.out (fun h => HNO.out (.inl h))
        exact OutAt.kept (OutAt.kept h1 ((Kept.refl NoBlk w4).drew) (fun h => h)) k5 (fun h => by unfold From at h; omega)
      have hcb5 : Blk w5 cb 42 (be4 (c : Nat)) := by
        have h1 := CB.out.kept KR4.out (fun h => NEC.out (.inl h))
        exact Blk.kept (w := w4.drew) h1 k5 (fun h => by unfold From at h; omega)
      have k05 : Kept TB w1 w5 := K04.out.trans (((Kept.refl TB w4).drew).trans (k5.mono (fun b _ h => TBN.out b h)))
      have hany5 := HZ.out.anyKept ANY4.out k5 (fun b h h2 => by have := NTB.out b h; unfold From at h2; omega)
      have hdig : ∀ i z, f5[i]? = some z → w5.cell? ⟨g5, i, none⟩ = some (.int .u8 (z.toNat : Int)) := by
        intro i z h
        obtain ⟨b, off, e, _, hc⟩ := At.at_ hat5 (k := i) (by
          rw [List.length_map]
          rcases Nat.lt_or_ge i f5.length with h1 | h1
          · exact h1
          · rw [List.getElem?_eq_none h1] at h; cases h)
        cases e
        have := hc i (B z) (by rw [List.getElem?_map, h]; rfl)
        rw [Nat.zero_add] at this
        exact this
      have HSC := Lib.hid hsc
      have OUT5 := Lib.hid hout5
      have CB5 := Lib.hid hcb5
      have K05 := Lib.hid k05
      have ANY5 := Lib.hid hany5
      have DIG := Lib.hid hdig
      have OWN5 := Lib.hid hown5
      have F5L := Lib.hid hf5l
      clear hsc hout5 hcb5 k05 hany5 hdig hown5 hat5 hb5 k5 hf5 hf5l C4 KR4 K04 ANY4 OUT OWN CB KW
      go_wp2_with fail
      go_loopw [8, 9] (fun qv jv wq => ∃ i q : Nat, q = d + i ∧ i ≤ hl ∧ q ≤ xs.length ∧ qv = .int .i64 (q : Int) ∧ jv = .int .i64 (i : Int) ∧ OutAt wq ob (partS S xs q) sp ∧ Kept (OneBlk ob) w5 wq) (fun _ jv _ => hl - (intOf jv).toNat)
      case atStart => exact ⟨0, d, rfl, Nat.zero_le _, Nat.le_of_lt hlt, rfl, rfl, OUT5.out, Kept.refl _ _⟩
      case round =>
        obtain ⟨wq, hwq⟩ : ∃ wq, wq = wr := ⟨_, rfl⟩
        subst hwq
        obtain ⟨i, q, hq, hi, hql, rfl, rfl, hout, hk⟩ := hrel
        have END : Hid (i = hl ∨ q = xs.length → ∀ w7, Blk w7 cb 42 (be4 ((c : Int) + 1)) → Kept (OneBlk cb) wq w7 → (q ≤ xs.length ∧ (q < xs.length → q = (c + 1) * hl) ∧ (q = xs.length → xs.length ≤ (c + 1) * hl)) ∧ d < q ∧ OutAt w7 ob (partS S xs ((c + 1) * hl)) sp ∧ w7.ownsRow N 5 1 (.slice (some ⟨g5, 0, none⟩) hl c5) hl (f5.map B) ∧ Any w7 ∧ Kept TB w1 w7) := Lib.hid (fun he w7 h7 k7 => by
          have hmul : (c + 1) * hl = d + hl := by rw [Nat.add_mul, Nat.one_mul, HDD.out]
          have kk : Kept (fun b => b = ob ∨ b = cb) w5 w7 := (hk.mono (fun b _ h => .inl h)).trans (k7.mono (fun b _ h => .inr h))
          refine ⟨⟨hql, fun h => by omega, fun h => by omega⟩, by omega, ?_, ?_, ?_, ?_⟩
          · have h1 := hout.kept k7 (fun h => CNE.out.1 h.symm)
            rcases he with he | he
            · rw [hmul, ← he, ← hq]; exact h1
            · rw [partS_all S xs q (by omega)] at h1
              rw [partS_all S xs _ (by omega)]
              exact h1
          · exact own_kept OWN5.out kk (fun b hb h => by
              have h3 := (OWN5.out.lt b hb).1
              have h4 := CNE.out
              rcases h with h | h <;> omega)
          · exact HZ.out.anyKept ANY5.out kk (fun b hb h => by
              rcases h with rfl | rfl
              · exact HNO.out hb
              · exact NEC.out hb)
          · exact K05.out.trans (kk.mono (fun b _ h => by
              rcases h with rfl | rfl
              · exact TBO.out
              · exact TBC.out)))
        have HQ := Lib.hid hq
        by_cases hin : i < hl ∧ q < xs.length
        · obtain ⟨hih, hqx⟩ := hin
          obtain ⟨x, hx⟩ := some_at hqx
          obtain ⟨z, hz⟩ := some_at (s := f5) (k := i) (by rw [F5L.out]; exact hih)
          have hSz : S q = z := by rw [hq]; exact HSC.out i z hz
          have cx := OutAt.byte hout (show (partS S xs q)[q]? = some x by rw [partS_at]; exact hx)
          have cz : wq.cell? ⟨g5, i, none⟩ = some (.int .u8 (z.toNat : Int)) := (hk.cell (p := ⟨g5, i, none⟩) hg5l (fun h => by have h2 : g5 = ob := h; omega)).trans (DIG.out i z hz)
          have fx : wq.frozen? ⟨ob, q, none⟩ = false := Blk.frozen hout q
          have e5 := u8_xor x z
          obtain ⟨y, hy⟩ : ∃ y, x ^^^ z = y := ⟨_, rfl⟩
          rw [hy] at e5
          have hset : (partS S xs q).set q y = partS S xs (q + 1) := by
            have h := partS_set S xs q x hx
            rw [hSz, hy] at h
            exact h
          have hnext : ∀ w', w' = (wq.setCell ⟨ob, q, none⟩ (.int .u8 (y.toNat : Int))).drew → OutAt w' ob (partS S xs (q + 1)) sp ∧ Kept (OneBlk ob) w5 w' := by
            rintro w' rfl
            have h := OutAt.putByte hout q (by rw [partS_length]; exact hqx) y
            rw [hset] at h
            exact ⟨OutAt.kept h ((Kept.refl NoBlk _).drew) (fun h => h), (hk.setOne q _).drew⟩
          have h1i : (i : Int) < (hl : Int) := Int.ofNat_lt.2 hih
          have h2i : (q : Int) < (xs.length : Int) := Int.ofNat_lt.2 hqx
          have NXT := Lib.hid hnext
          clear hx hz hSz hy hset hnext hout hk END hq
          go_wp2_with fail
          go_region
          all_goals go_wp2_with fail
          all_goals
            go_roundw
            case rel => exact ⟨i + 1, q + 1, by have h := HQ.out; omega, by omega, by omega, by go_num, by go_num, NXT.out _ rfl⟩
            case measure => first | (simp [intOf]; done) | (simp [intOf]; omega)
        · have hend : i = hl ∨ q = xs.length := by omega
          have hcb6 := CB5.out.kept hk (fun h => CNE.out.1 h)
          have C6 := Lib.hid (inc_any cb 42 (c : Int) wq hcb6)
          have EN := Lib.hid (END.out hend)
          clear hout hk END hcb6 hq
          have hcase : i = hl ∨ i < hl ∧ q = xs.length := by omega
          clear hin hend
          rcases hcase with hA | ⟨hA, hB⟩
          · have h1i : ¬ (i : Int) < (hl : Int) := by rw [hA]; exact Int.lt_irrefl _
            clear hA
            go_wp2_with fail
            refine C6.out.mono ?_
            rintro e w7 ⟨rfl, h7, k7⟩
            have E7 := Lib.hid (EN.out w7 h7 k7)
            have H7 := Lib.hid h7
            clear h7 k7 C6 EN
            go_wp2_with fail
            go_roundw
            case rel => exact ⟨c + 1, hl, c5, q, some ⟨g5, 0, none⟩, f5, rfl, by go_num, E7.out.1.1, E7.out.1.2.1, E7.out.1.2.2, E7.out.2.2.1, E7.out.2.2.2.1, E7.out.2.2.2.2.1, by have h := H7.out; rw [show ((c + 1 : Nat) : Int) = (c : Int) + 1 by omega]; exact h, E7.out.2.2.2.2.2⟩
            case measure => have := E7.out.2.1; first | (simp [intOf]; done) | (simp [intOf]; omega)
          · have h1i : (i : Int) < (hl : Int) := Int.ofNat_lt.2 hA
            have h2i : ¬ (q : Int) < (xs.length : Int) := by rw [hB]; exact Int.lt_irrefl _
            clear hA hB
            go_wp2_with fail
            refine C6.out.mono ?_
            rintro e w7 ⟨rfl, h7, k7⟩
            have E7 := Lib.hid (EN.out w7 h7 k7)
            have H7 := Lib.hid h7
            clear h7 k7 C6 EN
            go_wp2_with fail
            go_roundw
            case rel => exact ⟨c + 1, hl, c5, q, some ⟨g5, 0, none⟩, f5, rfl, by go_num, E7.out.1.1, E7.out.1.2.1, E7.out.1.2.2, E7.out.2.2.1, E7.out.2.2.2.1, E7.out.2.2.2.2.1, by have h := H7.out; rw [show ((c + 1 : Nat) : Int) = (c : Int) + 1 by omega]; exact h, E7.out.2.2.2.2.2⟩
            case measure => have := E7.out.2.1; first | (simp [intOf]; done) | (simp [intOf]; omega)
    · obtain rfl : d = xs.length := by omega
      have hall := hd2 rfl
      rw [partS_all S xs _ hall] at hout
      have hdi : ¬ ((xs.length : Nat) : Int) < (xs.length : Int) := Int.lt_irrefl _
      have FIN := Lib.hid (And.intro hout (FI.out _ hk))
      clear hd1 hd2 hout hown hany hcb hk
      go_wp2_with fail
      refine bodyPost_end (results_none rfl _ _ _) rfl ?_
      exact ⟨rfl, FIN.out⟩

end Go.Proofs.Ytgkfnmmajehobaa
