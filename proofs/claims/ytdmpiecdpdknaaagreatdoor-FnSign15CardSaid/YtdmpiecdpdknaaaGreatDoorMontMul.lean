/-
  bigmod.Nat.montgomeryMul.
-/
import Derived.Test.YtdmpiecdpdknaaaGreatDoorGb
namespace Go.Proofs.YtdmpiecdpdknaaaGreatDoor
open Go.RowKit

/-- The state of its loop: i words of b are taken in. -/
def MontSt (g n NN : Nat) (av mv : Nat) (bl : List Nat) (w : World) (i c : Nat) (pre us post : List Nat) (q : Nat) (wr : World) : Prop :=
  c ≤ 1 ∧ pre.length = i ∧ us.length = n ∧ i + n + post.length = NN ∧ Wd us ∧ Wd post ∧ q < Pw i ∧ Pw i * (val us + Pw n * c) = av * val (bl.take i) + mv * q ∧ Blk wr g 67 ((pre ++ us ++ post).map U).toArray ∧ Kept NoBlk w wr

theorem MontSt.start {g n NN av mv : Nat} {bl : List Nat} {w wr : World} (hb : Blk wr g 67 (noughtRow NN)) (hn : n ≤ NN) (hk : Kept NoBlk w wr) : MontSt g n NN av mv bl w 0 0 [] (noughts n) (noughts (NN - n)) 0 wr := by
  refine ⟨by omega, rfl, noughts_length n, by rw [noughts_length]; omega, noughts_wd _, noughts_wd _, Pw_pos 0, by simp [val_noughts, val], ?_, hk⟩
  have e : ([] ++ noughts n ++ noughts (NN - n)).map U = (List.replicate NN 0).map U := by
    unfold noughts; rw [List.nil_append, List.replicate_append_replicate, Nat.add_sub_cancel' hn]
  rw [e]; exact hb

/-- What a multiplication leaves. -/
def MontPost (p b n : Nat) (av bv mv capOld : Nat) (w : World) (e : Ending) (w' : World) : Prop :=
  e = .returned (.pointer (some ⟨p, 0, none⟩)) ∧ ∃ (b' : Nat) (zs rest' : List Nat), zs.length = n ∧ NatAt w' p b' zs rest' ∧ (b' = b ∧ n + rest'.length = capOld ∨ w.heap.size ≤ b' ∧ capOld < n) ∧ n + rest'.length ≤ max n capOld ∧ Kept (Both p b) w w' ∧ val zs < mv ∧ Pw n * val zs % mv = av * bv % mv

set_option maxHeartbeats 1600000 in
set_option maxRecDepth 4000 in
theorem montMul_small (p b pa ba pc bc q pn bn n : Nat) (xs rest al ar bl br ms mr : List Nat) (mi : Nat) (rv : Value) (w : World) (hx : NatAt w p b xs rest) (ha : NatAt w pa ba al ar) (hb : NatAt w pc bc bl br) (hm : ModAt w q pn bn ms mr true mi rv)
    (hn : ms.length = n) (hla : al.length = n) (hlb : bl.length = n) (hn1 : 1 ≤ n) (hnm : n + mr.length ≤ 1000000) (hna : n + ar.length ≤ 1000000) (hnb : n + br.length ≤ 1000000) (h16 : n ≠ 16) (h24 : n ≠ 24) (h32 : n ≠ 32) (h64 : ¬ 64 < n * 2) (hpn : pn ≠ p) (hbn : bn ≠ b)
    (hinv : ms.headD 0 * mi % 18446744073709551616 = 18446744073709551615) (hav : val al < val ms) :
    Calls Tryz.prog 73 #[.pointer (some ⟨p, 0, none⟩), .pointer (some ⟨pa, 0, none⟩), .pointer (some ⟨pc, 0, none⟩), .pointer (some ⟨q, 0, none⟩)] w
      (MontPost p b n (val al) (val bl) (val ms) (xs.length + rest.length) w) := by
  have cm := hm.ptr
  have cmi := hm.1.cellIs (i := 2) rfl
  have cn := hm.2.cell
  have ca := ha.cell
  have cb := hb.cell
  rw [hn] at cn
  rw [hla] at ca
  rw [hlb] at cb
  have HX := Lib.hid hx
  have HA := Lib.hid ha
  have HB := Lib.hid hb
  have HM := Lib.hid hm
  have HN := Lib.hid hn
  have HLA := Lib.hid hla
  have HLB := Lib.hid hlb
  have hmk0 : ∀ w' : World, (Instr.makeSlice 89 (.int .i64 0) (.int .i64 64)).run Tryz.prog w' = .ok (.slice (some ⟨w'.heap.size, 0, none⟩) 0 64) (w'.alloc (.cells (noughtRow 64) 67)) := fun w' => make_words w' 0 64 (by decide) (by decide)
  have e16 : ((n : Int) == 16) = false := beq_eq_false_iff_ne.2 (by omega)
  have e24 : ((n : Int) == 24) = false := beq_eq_false_iff_ne.2 (by omega)
  have e32 : ((n : Int) == 32) = false := beq_eq_false_iff_ne.2 (by omega)
  clear hx ha hb hm hn hla hlb
  obtain ⟨g, hg⟩ : ∃ g, w.heap.size = g := ⟨_, rfl⟩
  obtain ⟨w1, hw1⟩ : ∃ w1, w.alloc (.cells (noughtRow 64) 67) = w1 := ⟨_, rfl⟩
  have hstart : MontSt g n 64 (val al) (val ms) bl w 0 0 [] (noughts n) (noughts (64 - n)) 0 w1 := by
    rw [← hw1, ← hg]
    exact MontSt.start (Blk.new w _ _) (by omega) ((Kept.refl _ _).alloc _)
  have h64i : (n : Int) * 2 ≤ 64 := by omega
  have START := Lib.hid hstart
  have GB := Lib.hid hg
  have HINV := Lib.hid hinv
  have HAV := Lib.hid hav
  clear hinv hav hstart
  go_enter Tryz.func73, Tryz.ntmps73
  go_wp2_with fail
  go_loopw [14, 15] (fun cv iv wr => ∃ (i c : Nat) (pre us post : List Nat) (t : Nat), i ≤ n ∧ cv = .int .u64 c ∧ iv = .int .i64 i ∧ MontSt g n (64) (val al) (val ms) bl w i c pre us post t wr) (fun _ i _ => n - (intOf i).toNat)
  case atStart => exact ⟨0, 0, [], noughts n, noughts (64 - n), 0, Nat.zero_le _, rfl, rfl, START.out⟩
  case round =>
    obtain ⟨i, c, pre, us, post, t, hi, rfl, rfl, hc, hpre, hus, hpost, wus, wpost, hq, hI, hB, hK⟩ := hrel
    by_cases hlt : i < n
    · have hgl : g < wr.heap.size := hB.lt
      have hng : ∀ k, k < w.heap.size → k ≠ g := fun k hk => by have := GB.out; omega
      have hil : i < bl.length := by have := HLB.out; omega
      have cbl := (HB.out.still hK).limb i hil
      obtain ⟨d, hd⟩ : ∃ d, bl[i] = d := ⟨_, rfl⟩
      have hdw : d < 18446744073709551616 := by rw [← hd]; exact HB.out.2.2.1.get i hil
      rw [hd] at cbl
      obtain ⟨z0, post', hpo⟩ : ∃ z0 post', post = z0 :: post' := by
        cases post with
        | nil => simp at hpost; omega
        | cons z zs => exact ⟨z, zs, rfl⟩
      have hrow : ∀ vs : List Nat, vs.length = n → ((pre ++ vs ++ post).map U)[n + i]? = some (.int .u64 (z0 : Int)) := by
        intro vs hv
        rw [List.getElem?_map, List.getElem?_append_right (by simp [hpre, hv]; omega), hpo]
        simp [hpre, hv, Nat.add_comm, U]
      have cT : wr.cell? ⟨g, n + i, none⟩ = some (.int .u64 (z0 : Int)) := hB.cellIs (by rw [List.getElem?_toArray]; exact hrow us hus)
      have ha1 := (HA.out.still hK)
      have m1 := addMulVVW_any g i (64 - i) ba 0 n (n + ar.length) d pre us post al wr hpre hB ha1.words (hng _ HA.out.lt.2) (by have := HLA.out; omega) (by have := HLA.out; omega) (by have := HLA.out; omega) (by omega) wus ha1.2.2.1 hdw
      rw [HLA.out] at m1
      have hii : (i : Int) < (n : Int) := by omega
      have hni : ¬ 64 = i := by omega
      have hnn : (n : Int) + (i : Int) < (n : Int) * 2 := by omega
      have hn2 : (n : Int) + (i : Int) ≤ 64 := by omega
      have hsub : n + i - i = n := by omega
      have M1 := Lib.hid m1
      have HI := Lib.hid hI
      have HQ := Lib.hid hq
      have HD := Lib.hid hd
      have HPO := Lib.hid hpo
      have HROW := Lib.hid hrow
      have HK := Lib.hid hK
      clear m1 hI hq hd hpo hB ha1 hrow hK
      go_wp2_with fail
      refine M1.out.mono ?_
      rintro e w2 ⟨us1, c1, rfl, hc1, hu1, wu1, hv1, hB1, k1⟩
      obtain ⟨u, us1', hus1⟩ : ∃ u us1', us1 = u :: us1' := by
        cases us1 with
        | nil => first | (simp at hu1; done) | (simp at hu1; omega)
        | cons z zs => exact ⟨z, zs, rfl⟩
      have huw : u < 18446744073709551616 := wu1 u (by rw [hus1]; exact List.mem_cons_self ..)
      have cTi : w2.cell? ⟨g, i, none⟩ = some (.int .u64 (u : Int)) := hB1.cellIs (by
        rw [List.getElem?_toArray, List.getElem?_map, List.append_assoc, List.getElem?_append_right (by omega), hpre, hus1]; simp [U])
      have hK1 := HK.out.fresh k1 (by have := GB.out; omega)
      have hm1 := HM.out.still hK1
      have cq2 := hm1.1.cellIs (i := 2) rfl
      have hs1 := hK1.size
      obtain ⟨Y, hY⟩ : ∃ Y, u * mi % 18446744073709551616 = Y := ⟨_, rfl⟩
      have hYi : IntKind.u64.wrap ((u : Int) * (mi : Int)) = (Y : Int) := by rw [Mul64.mulN, Mul64.wrapM, hY]
      have hYw : Y < 18446744073709551616 := by rw [← hY]; exact Nat.mod_lt _ (by decide)
      have m2 : ∀ nq, _ := fun nq => addMulVVW_any g i (64 - i) bn 0 n (n + mr.length) Y pre us1 post ms (w2.drewN nq) hpre (hB1.drewN nq) (hm1.2.drewN nq).words (hng _ HM.out.2.lt.2) (by have := HN.out; omega) (by have := HN.out; omega) (by have := HN.out; omega) (by omega) wu1 hm1.2.2.2.1 hYw
      rw [HN.out] at m2
      have M2 := Lib.hid m2
      have HV1 := Lib.hid hv1
      have HY := Lib.hid hY
      have HUS1 := Lib.hid hus1
      have HU1 := Lib.hid hu1
      have HK1 := Lib.hid hK1
      clear m2 hv1 hY hus1 hu1 hK1 hB1 k1 hm1 M1
      go_wp2_with fail
      go_quiet (fail)
      go_wp2_with fail
      refine (M2.out _).mono ?_
      rintro e w3 ⟨us2, c2, rfl, hc2, hu2, wu2, hv2, hB2, k2⟩
      have hms : ∃ m0 ms', ms = m0 :: ms' := by
        have := HN.out
        cases ms with
        | nil => first | (simp at this; done) | (simp at this; omega)
        | cons z zs => exact ⟨z, zs, rfl⟩
      obtain ⟨m0, ms', hms⟩ := hms
      have hm0w : m0 < 18446744073709551616 := HM.out.2.2.2.1 m0 (by rw [hms]; exact List.mem_cons_self ..)
      have hinv2 : m0 * mi % 18446744073709551616 = 18446744073709551615 := by have := HINV.out; rw [hms] at this; simpa using this
      obtain ⟨us3, hus3⟩ := mont_head n (val ms) Y c2 u mi m0 us1' us2 ms' hu2 hn1 wu2 hm0w (by rw [hms]) huw (by rw [← HUS1.out]; exact hv2) hinv2 HY.out.symm
      obtain ⟨s, c', hs, hsl⟩ : ∃ s c', c1 + c2 + c = s + 18446744073709551616 * c' ∧ s < 18446744073709551616 := ⟨(c1 + c2 + c) % 18446744073709551616, (c1 + c2 + c) / 18446744073709551616, by omega, by omega⟩
      have hc'1 : c' ≤ 1 := by omega
      have madd := bitsAdd_is c1 c2 c s c' hc hsl hs
      have hu3 : us3.length + 1 = n := by rw [hus3] at hu2; simpa using hu2
      have hstep := mont_step n (val al) (val ms) d Y i c c1 c2 s c' t (val (bl.take i)) us us1 us3 hu3 HV1.out (by rw [← hus3]; exact hv2) hs HI.out
      have htake : val (bl.take i) + Pw i * d = val (bl.take (i + 1)) := by rw [val_take_succ bl i hil, HD.out]
      rw [htake] at hstep
      have hq2 : t + Pw i * Y < Pw (i + 1) := by
        rw [Pw_succ]
        have := HQ.out
        have := Nat.mul_le_mul_left (Pw i) (show Y ≤ 18446744073709551615 by omega)
        omega
      have hset := (hB2.set_ (n + i) (.int .u64 (s : Int)))
      have hrow2 : ((pre ++ us2 ++ post).map U).toArray.setIfInBounds (n + i) (.int .u64 (s : Int)) = (((pre ++ [0]) ++ (us3 ++ [s]) ++ post').map U).toArray := by
        rw [HPO.out, hus3, List.setIfInBounds_toArray, List.map_append, List.set_append_right _ _ (by simp [hpre]; omega)]
        have e0 : n + i - ((pre ++ 0 :: us3).map U).length = 0 := by simp [hpre]; omega
        rw [e0]
        simp [U]
      rw [hrow2] at hset
      have hK3 := (HK1.out.drewN nq).fresh k2 (by have := GB.out; omega)
      have hst : MontSt g n (64) (val al) (val ms) bl w (i + 1) c' (pre ++ [0]) (us3 ++ [s]) post' (t + Pw i * Y) (w3.setCell ⟨g, n + i, none⟩ (.int .u64 (s : Int))) := by
        refine ⟨hc'1, by simp [hpre], by simp; omega, ?_, ?_, ?_, hq2, hstep, hset, hK3.setNew (by have := GB.out; omega) _ _⟩
        · rw [HPO.out] at hpost; simp at hpost; omega
        · rw [hus3] at wu2
          exact Wd.snoc (fun x hx => wu2 x (List.mem_cons_of_mem _ hx)) hsl
        · have := wpost
          rw [HPO.out] at this
          exact fun x hx => this x (List.mem_cons_of_mem _ hx)
      have cT3 : w3.cell? ⟨g, n + i, none⟩ = some (.int .u64 (z0 : Int)) := hB2.cellIs (by rw [List.getElem?_toArray]; exact HROW.out us2 hu2)
      have f3 := hB2.frozen (n + i)
      have MADD := Lib.hid madd
      have ST := Lib.hid hst
      clear madd hst hset hrow2 hK3 hstep htake hq2 hs hu3 hus3 hu2 hv2 hB2 k2 M2 hms hinv2
      go_wp2_with fail
      refine (MADD.out _).mono ?_
      rintro e w' ⟨rfl, rfl⟩
      go_wp2_with fail
      go_roundw
      case rel => exact ⟨i + 1, c', _, _, _, _, by omega, rfl, by go_num, ST.out⟩
      case measure => simp [intOf]; omega
    · obtain rfl : i = n := by omega
      rw [List.take_of_length_le (by have := HLB.out; omega)] at hI
      have hS := mont_end i (val al) (val bl) (val ms) t _ hI hq HAV.out (by have := val_lt bl HB.out.2.2.1; rw [HLB.out] at this; exact this)
      have HS := Lib.hid hS
      have HI := Lib.hid hI
      have HBB := Lib.hid hB
      have HK := Lib.hid hK
      clear hS hI hB hK
      go_wp2_with fail
      have hx1 := HX.out.still HK.out
      have hgb : g ≠ p ∧ g ≠ b := by have := GB.out; have := HX.out.lt; omega
      have hr := reset_any p b i xs rest wr.drew hx1 (by omega)
      have HR := Lib.hid hr
      have hni2 : ¬ 64 = i := by omega
      have hsl : i * 2 - i = i := by omega
      have hat : ∀ w4 : World, Kept (Both p b) wr.drew w4 → At w4 (some ⟨g, i, none⟩) (us.map U) := by
        intro w4 k4
        have hb4 := (show Blk wr.drew g 67 _ from HBB.out).kept k4 (fun e => e.elim hgb.1 hgb.2)
        refine .inr ⟨g, i, rfl, hb4.lt, fun j u hu => hb4.cellIs ?_⟩
        have hjl := (List.getElem?_eq_some_iff.1 hu).1
        rw [List.getElem?_toArray, List.map_append, List.getElem?_append_left (by simp at hjl ⊢; omega), List.map_append, List.getElem?_append_right (by simp [hpre]), List.length_map, hpre, Nat.add_sub_cancel_left]
        exact hu
      have HAT := Lib.hid hat
      clear hr hx1 hat
      go_region_with (go_at_call 77; refine HR.out.mono ?_; rintro e w4 ⟨rfl, b4, rest4, h1, h2, h3, h4⟩; obtain ⟨w5, hrun, r5, k5⟩ := run_copy_words w4 3 (some ⟨b4, 0, none⟩) (some ⟨g, i, none⟩) i (i + rest4.length) i (64 - i) b4 0 ((noughts i ++ rest4).map U) 67 h1.2.1 us (HAT.out w4 h4) hus.symm i (by omega) (fun _ => rfl) (by simp [noughts]); have c5 := h1.cell; rw [noughts_length] at c5)
      all_goals
        have hrow5 : splice ((noughts i ++ rest4).map U) 0 ((us.take i).map U) = (us ++ rest4).map U := by
          rw [List.take_of_length_le (by omega)]
          unfold splice
          rw [List.map_append, List.length_map, hus, List.take_zero, List.nil_append, Nat.zero_add, List.drop_append_of_le_length (by simp [noughts]), List.drop_eq_nil_of_le (by simp [noughts]), List.nil_append, List.map_append]
        rw [hrow5] at r5
        have hh5 := h1.1.kept k5 h1.pb
        rw [noughts_length] at hh5
        have h5 : NatAt w5 p b4 us rest4 := ⟨by rw [hus]; exact hh5, r5, wus, h1.2.2.2⟩
        have hkw4 : Kept (Both p b) w w4 := (HK.out.drew.mono (S' := Both p b) (fun _ _ e => e.elim)).trans h4
        have hkw5 : Kept (Both p b) w w5 := hkw4.step k5 (fun x hx e => by
          unfold OneBlk at e
          rcases h2 with h2 | h2
          · exact .inr (e.trans h2.1)
          · have : w.heap.size ≤ wr.drew.heap.size := HK.out.size
            omega)
        have hm5 := HM.out.away HX.out hpn hbn hkw5
        have hms := maybeSub_mod p b4 q pn bn c us rest4 ms mr true mi rv w5 hc h5 hm5 (hus.trans HN.out.symm) (by have := HN.out; omega) (by rw [hus]; exact HS.out)
        rw [hus] at hms
        have HMS := Lib.hid hms
        have HKW5 := Lib.hid hkw5
        have hb4 : b4 = b ∧ i + rest4.length = xs.length + rest.length ∨ w.heap.size ≤ b4 ∧ xs.length + rest.length < i := h2.imp (fun e => ⟨e.1, by have := e.2; rw [noughts_length] at this; exact this⟩) (fun e => ⟨Nat.le_trans HK.out.size e.1, by have := e.2; rw [noughts_length] at this; exact this⟩)
        have h3' : i + rest4.length ≤ max i (xs.length + rest.length) := by rw [noughts_length] at h3; exact h3
        have H3 := Lib.hid h3'
        have HB4 := Lib.hid hb4
        clear hrow5 r5 hh5 h5 hkw4 hkw5 hm5 hms hb4 h3 h3' h1 h2 h4 k5 hrun c5
        go_wp2_with fail
        refine HMS.out.mono ?_
        rintro e w6 ⟨rfl, zs, z1, z2, z3, z4⟩
        have hfin : MontPost p b i (val al) (val bl) (val ms) (xs.length + rest.length) w (.returned (.pointer (some ⟨p, 0, none⟩))) w6 := by
          refine ⟨rfl, b4, zs, rest4, z1, z2, HB4.out, H3.out, ?_, ?_, ?_⟩
          · refine HKW5.out.step z3 (fun x hx e => ?_)
            unfold OneBlk at e
            rcases HB4.out with h | h
            · exact .inr (e.trans h.1)
            · omega
          · rw [z4]; exact Nat.mod_lt _ (by have := HAV.out; omega)
          · rw [z4, Nat.mul_mod_mod, HI.out, Nat.add_mul_mod_self_left]
        have FIN := Lib.hid hfin
        clear hfin z1 z2 z3 z4 HMS
        go_wp2_with fail
        go_ret
        exact FIN.out

end Go.Proofs.YtdmpiecdpdknaaaGreatDoor
