/-
  bigmod.Nat.montgomeryMul.
  bigmod.Nat.montgomeryMul.
  bigmod.Nat.montgomeryMul.
  bigmod.Nat.montgomeryMul.
-/
import Derived.Test.YtdmpiecdpdknaaaGreatDoorMontMul
import Derived.Test.YtdmpiecdpdknaaaGreatDoorMontBig
namespace Go.Proofs.YtdmpiecdpdknaaaGreatDoor
open Go.RowKit

set_option maxHeartbeats 1600000 in
set_option maxRecDepth 100000 in
theorem montMul_16 (p b pa ba pc bc q pn bn n : Nat) (xs rest al ar bl br ms mr : List Nat) (mi : Nat) (rv : Value) (w : World) (hx : NatAt w p b xs rest) (ha : NatAt w pa ba al ar) (hb : NatAt w pc bc bl br) (hm : ModAt w q pn bn ms mr true mi rv)
    (hn : ms.length = n) (hla : al.length = n) (hlb : bl.length = n) (_hn1 : 1 ≤ n) (hnm : n + mr.length ≤ 1000000) (hna : n + ar.length ≤ 1000000) (hnb : n + br.length ≤ 1000000) (hnk : n = 16) (hpn : pn ≠ p) (hbn : bn ≠ b)
    (hinv : ms.headD 0 * mi % 18446744073709551616 = 18446744073709551615) (hav : val al < val ms) :
    Calls Tryz.prog 73 #[.pointer (some ⟨p, 0, none⟩), .pointer (some ⟨pa, 0, none⟩), .pointer (some ⟨pc, 0, none⟩), .pointer (some ⟨q, 0, none⟩)] w
      (MontPost p b n (val al) (val bl) (val ms) (xs.length + rest.length) w) := by
  have cm := hm.ptr
  have cmi := hm.1.cellIs (i := 2) rfl
  have cn := hm.2.cell
  have ca := ha.cell
  have cb := hb.cell
  rw [hn] at cn
  rw [hla] at ca
  rw [hlb] at cb
  have HX := Lib.hid hx
  have HA := Lib.hid ha
  have HB := Lib.hid hb
  have HM := Lib.hid hm
  have HN := Lib.hid hn
  have HLA := Lib.hid hla
  have HLB := Lib.hid hlb
  have hmk32 : ∀ w' : World, (Instr.makeSlice 89 (.int .i64 32) (.int .i64 32)).run Tryz.prog w' = .ok (.slice (some ⟨w'.heap.size, 0, none⟩) 32 32) (w'.alloc (.cells (noughtRow 32) 67)) := fun w' => make_words w' 32 32 (by decide) (by decide)
  clear hx ha hb hm hn hla hlb
  subst hnk
  have hn1 : 1 ≤ 16 := by decide
  obtain ⟨g, hg⟩ : ∃ g, w.heap.size = g := ⟨_, rfl⟩
  obtain ⟨w1, hw1⟩ : ∃ w1, w.alloc (.cells (noughtRow 32) 67) = w1 := ⟨_, rfl⟩
  have hstart : MontSt g 16 32 (val al) (val ms) bl w 0 0 [] (noughts 16) (noughts (32 - 16)) 0 w1 := by
    rw [← hw1, ← hg]
    exact MontSt.start (Blk.new w _ _) (by omega) ((Kept.refl _ _).alloc _)
  have START := Lib.hid hstart
  have GB := Lib.hid hg
  have HINV := Lib.hid hinv
  have HAV := Lib.hid hav
  clear hinv hav hstart
  go_enter Tryz.func73, Tryz.ntmps73
  go_wp2_with fail
  go_loopw [21, 22] (fun cv iv wr => ∃ (i c : Nat) (pre us post : List Nat) (t : Nat), i ≤ 16 ∧ cv = .int .u64 c ∧ iv = .int .i64 i ∧ MontSt g 16 (32) (val al) (val ms) bl w i c pre us post t wr) (fun _ i _ => 16 - (intOf i).toNat)
  case atStart => exact ⟨0, 0, [], noughts 16, noughts (32 - 16), 0, Nat.zero_le _, rfl, rfl, START.out⟩
  case round =>
    obtain ⟨i, c, pre, us, post, t, hi, rfl, rfl, hc, hpre, hus, hpost, wus, wpost, hq, hI, hB, hK⟩ := hrel
    by_cases hlt : i < 16
    · have hgl : g < wr.heap.size := hB.lt
      have hng : ∀ k, k < w.heap.size → k ≠ g := fun k hk => by have := GB.out; omega
      have hil : i < bl.length := by have := HLB.out; omega
      have cbl := (HB.out.still hK).limb i hil
      obtain ⟨d, hd⟩ : ∃ d, bl[i] = d := ⟨_, rfl⟩
      have hdw : d < 18446744073709551616 := by rw [← hd]; exact HB.out.2.2.1.get i hil
      rw [hd] at cbl
      obtain ⟨z0, post', hpo⟩ : ∃ z0 post', post = z0 :: post' := by
        cases post with
        | nil => simp at hpost; omega
        | cons z zs => exact ⟨z, zs, rfl⟩
      have hrow : ∀ vs : List Nat, vs.length = 16 → ((pre ++ vs ++ post).map U)[16 + i]? = some (.int .u64 (z0 : Int)) := by
        intro vs hv
        rw [List.getElem?_map, List.getElem?_append_right (by simp [hpre, hv]; omega), hpo]
        simp [hpre, hv, Nat.add_comm, U]
      have cT : wr.cell? ⟨g, 16 + i, none⟩ = some (.int .u64 (z0 : Int)) := hB.cellIs (by rw [List.getElem?_toArray]; exact hrow us hus)
      have ha1 := (HA.out.still hK)
      have m1 := addMulVVW_any g i (32 - i) ba 0 16 (16 + ar.length) d pre us post al wr.drew hpre hB ha1.words (hng _ HA.out.lt.2) (by have := HLA.out; omega) (by have := HLA.out; omega) (by have := HLA.out; omega) (by omega) wus ha1.2.2.1 hdw
      rw [HLA.out] at m1
      have hii : (i : Int) < (16 : Int) := by omega
      have hni : ¬ 32 = i := by omega
      have hnn : (16 : Int) + (i : Int) < 32 := by omega
      have hn2 : (i : Int) + (16 : Int) ≤ 32 := by omega
      have hna2 : (16 : Int) ≤ (16 : Int) + (ar.length : Int) := by omega
      have hnm2 : (16 : Int) ≤ (16 : Int) + (mr.length : Int) := by omega
      have hsub : i + 16 - i = 16 := by omega
      have M1 := Lib.hid m1
      have HI := Lib.hid hI
      have HQ := Lib.hid hq
      have HD := Lib.hid hd
      have HPO := Lib.hid hpo
      have HROW := Lib.hid hrow
      have HK := Lib.hid hK
      clear m1 hI hq hd hpo hB ha1 hrow hK
      go_wp2_with fail
      have hw1 : IntKind.i64.wrap ((i : Int) + 16) = (i : Int) + 16 := IntWalk.i64_in _ (by omega)
      have hw2 : ((i : Int) + 16).toNat = i + 16 := by omega
      have hw3 : i ≤ i + 16 := by omega
      have hw4 : 0 ≤ (i : Int) + 16 := by omega
      go_still_tail 8, (by kernel_rfl)
      clear hw1 hw2 hw3 hw4
      change wpList _ _ _ _ _ wr.drew
      go_wp2_with fail
      refine M1.out.mono ?_
      rintro e w2 ⟨us1, c1, rfl, hc1, hu1, wu1, hv1, hB1, k1⟩
      obtain ⟨u, us1', hus1⟩ : ∃ u us1', us1 = u :: us1' := by
        cases us1 with
        | nil => first | (simp at hu1; done) | (simp at hu1; omega)
        | cons z zs => exact ⟨z, zs, rfl⟩
      have huw : u < 18446744073709551616 := wu1 u (by rw [hus1]; exact List.mem_cons_self ..)
      have cTi : w2.cell? ⟨g, i, none⟩ = some (.int .u64 (u : Int)) := hB1.cellIs (by
        rw [List.getElem?_toArray, List.getElem?_map, List.append_assoc, List.getElem?_append_right (by omega), hpre, hus1]; simp [U])
      have hK1 := HK.out.drew.fresh k1 (by have := GB.out; omega)
      have hm1 := HM.out.still hK1
      have cq2 := hm1.1.cellIs (i := 2) rfl
      have hs1 := hK1.size
      obtain ⟨Y, hY⟩ : ∃ Y, u * mi % 18446744073709551616 = Y := ⟨_, rfl⟩
      have hYi : IntKind.u64.wrap ((u : Int) * (mi : Int)) = (Y : Int) := by rw [Mul64.mulN, Mul64.wrapM, hY]
      have hYw : Y < 18446744073709551616 := by rw [← hY]; exact Nat.mod_lt _ (by decide)
      have m2 : ∀ nq, _ := fun nq => addMulVVW_any g i (32 - i) bn 0 16 (16 + mr.length) Y pre us1 post ms (w2.drewN nq).drew hpre (hB1.drewN nq).drew (hm1.2.drewN nq).drew.words (hng _ HM.out.2.lt.2) (by have := HN.out; omega) (by have := HN.out; omega) (by have := HN.out; omega) (by omega) wu1 hm1.2.2.2.1 hYw
      rw [HN.out] at m2
      have M2 := Lib.hid m2
      have HV1 := Lib.hid hv1
      have HY := Lib.hid hY
      have HUS1 := Lib.hid hus1
      have HU1 := Lib.hid hu1
      have HK1 := Lib.hid hK1
      clear m2 hv1 hY hus1 hu1 hK1 hB1 k1 hm1 M1
      go_wp2_with fail
      go_quiet (fail)
      go_wp2_with fail
      have hw1 : IntKind.i64.wrap ((i : Int) + 16) = (i : Int) + 16 := IntWalk.i64_in _ (by omega)
      have hw2 : ((i : Int) + 16).toNat = i + 16 := by omega
      have hw3 : i ≤ i + 16 := by omega
      have hw4 : 0 ≤ (i : Int) + 16 := by omega
      go_still_tail 8, (by kernel_rfl)
      clear hw1 hw2 hw3 hw4
      change wpList _ _ _ _ _ (w2.drewN nq).drew
      go_wp2_with fail
      refine (M2.out _).mono ?_
      rintro e w3 ⟨us2, c2, rfl, hc2, hu2, wu2, hv2, hB2, k2⟩
      have hms : ∃ m0 ms', ms = m0 :: ms' := by
        have := HN.out
        cases ms with
        | nil => first | (simp at this; done) | (simp at this; omega)
        | cons z zs => exact ⟨z, zs, rfl⟩
      obtain ⟨m0, ms', hms⟩ := hms
      have hm0w : m0 < 18446744073709551616 := HM.out.2.2.2.1 m0 (by rw [hms]; exact List.mem_cons_self ..)
      have hinv2 : m0 * mi % 18446744073709551616 = 18446744073709551615 := by have := HINV.out; rw [hms] at this; simpa using this
      obtain ⟨us3, hus3⟩ := mont_head 16 (val ms) Y c2 u mi m0 us1' us2 ms' hu2 hn1 wu2 hm0w (by rw [hms]) huw (by rw [← HUS1.out]; exact hv2) hinv2 HY.out.symm
      obtain ⟨s, c', hs, hsl⟩ : ∃ s c', c1 + c2 + c = s + 18446744073709551616 * c' ∧ s < 18446744073709551616 := ⟨(c1 + c2 + c) % 18446744073709551616, (c1 + c2 + c) / 18446744073709551616, by omega, by omega⟩
      have hc'1 : c' ≤ 1 := by omega
      have madd := bitsAdd_is c1 c2 c s c' hc hsl hs
      have hu3 : us3.length + 1 = 16 := by rw [hus3] at hu2; simpa using hu2
      have hstep := mont_step 16 (val al) (val ms) d Y i c c1 c2 s c' t (val (bl.take i)) us us1 us3 hu3 HV1.out (by rw [← hus3]; exact hv2) hs HI.out
      have htake : val (bl.take i) + Pw i * d = val (bl.take (i + 1)) := by rw [val_take_succ bl i hil, HD.out]
      rw [htake] at hstep
      have hq2 : t + Pw i * Y < Pw (i + 1) := by
        rw [Pw_succ]
        have := HQ.out
        have := Nat.mul_le_mul_left (Pw i) (show Y ≤ 18446744073709551615 by omega)
        omega
      have hset := (hB2.set_ (16 + i) (.int .u64 (s : Int)))
      have hrow2 : ((pre ++ us2 ++ post).map U).toArray.setIfInBounds (16 + i) (.int .u64 (s : Int)) = (((pre ++ [0]) ++ (us3 ++ [s]) ++ post').map U).toArray := by
        rw [HPO.out, hus3, List.setIfInBounds_toArray, List.map_append, List.set_append_right _ _ (by simp [hpre]; omega)]
        have e0 : 16 + i - ((pre ++ 0 :: us3).map U).length = 0 := by simp [hpre]; omega
        rw [e0]
        simp [U]
      rw [hrow2] at hset
      have hK3 := ((HK1.out.drewN nq).drew).fresh k2 (by have := GB.out; omega)
      have hst : MontSt g 16 (32) (val al) (val ms) bl w (i + 1) c' (pre ++ [0]) (us3 ++ [s]) post' (t + Pw i * Y) (w3.setCell ⟨g, 16 + i, none⟩ (.int .u64 (s : Int))) := by
        refine ⟨hc'1, by simp [hpre], by simp; omega, ?_, ?_, ?_, hq2, hstep, hset, hK3.setNew (by have := GB.out; omega) _ _⟩
        · rw [HPO.out] at hpost; simp at hpost; omega
        · rw [hus3] at wu2
          exact Wd.snoc (fun x hx => wu2 x (List.mem_cons_of_mem _ hx)) hsl
        · have := wpost
          rw [HPO.out] at this
          exact fun x hx => this x (List.mem_cons_of_mem _ hx)
      have cT3 : w3.cell? ⟨g, 16 + i, none⟩ = some (.int .u64 (z0 : Int)) := hB2.cellIs (by rw [List.getElem?_toArray]; exact HROW.out us2 hu2)
      have f3 := hB2.frozen (16 + i)
      have MADD := Lib.hid madd
      have ST := Lib.hid hst
      clear madd hst hset hrow2 hK3 hstep htake hq2 hs hu3 hus3 hu2 hv2 hB2 k2 M2 hms hinv2
      go_wp2_with fail
      refine (MADD.out _).mono ?_
      rintro e w' ⟨rfl, rfl⟩
      go_wp2_with fail
      go_roundw
      case rel => exact ⟨i + 1, c', _, _, _, _, by omega, rfl, by go_num, ST.out⟩
      case measure => simp [intOf]; omega
    · obtain rfl : i = 16 := by omega
      rw [show ((16 : Nat) : Int) = 16 from rfl]
      rw [List.take_of_length_le (by have := HLB.out; omega)] at hI
      have hS := mont_end 16 (val al) (val bl) (val ms) t _ hI hq HAV.out (by have := val_lt bl HB.out.2.2.1; rw [HLB.out] at this; exact this)
      have HS := Lib.hid hS
      have HI := Lib.hid hI
      have HBB := Lib.hid hB
      have HK := Lib.hid hK
      clear hS hI hB hK
      go_wp2_with fail
      have hx1 := HX.out.still HK.out
      have hgb : g ≠ p ∧ g ≠ b := by have := GB.out; have := HX.out.lt; omega
      have hr := reset_any p b 16 xs rest wr.drew hx1 (by omega)
      have HR := Lib.hid hr
      have hat : ∀ w4 : World, Kept (Both p b) wr.drew w4 → At w4 (some ⟨g, 16, none⟩) (us.map U) := by
        intro w4 k4
        have hb4 := (show Blk wr.drew g 67 _ from HBB.out).kept k4 (fun e => e.elim hgb.1 hgb.2)
        refine .inr ⟨g, 16, rfl, hb4.lt, fun j u hu => hb4.cellIs ?_⟩
        have hjl := (List.getElem?_eq_some_iff.1 hu).1
        rw [List.getElem?_toArray, List.map_append, List.getElem?_append_left (by simp at hjl ⊢; omega), List.map_append, List.getElem?_append_right (by simp [hpre]), List.length_map, hpre, Nat.add_sub_cancel_left]
        exact hu
      have HAT := Lib.hid hat
      clear hr hx1 hat
      go_region_with (go_at_call 77; refine HR.out.mono ?_; rintro e w4 ⟨rfl, b4, rest4, h1, h2, h3, h4⟩; obtain ⟨w5, hrun, r5, k5⟩ := run_copy_words w4 3 (some ⟨b4, 0, none⟩) (some ⟨g, 16, none⟩) 16 (16 + rest4.length) 16 16 b4 0 ((noughts 16 ++ rest4).map U) 67 h1.2.1 us (HAT.out w4 h4) hus.symm 16 (by omega) (fun _ => rfl) (by simp [noughts]); have c5 := h1.cell; rw [noughts_length] at c5)
      all_goals
        have hrow5 : splice ((noughts 16 ++ rest4).map U) 0 ((us.take 16).map U) = (us ++ rest4).map U := by
          rw [List.take_of_length_le (by omega)]
          unfold splice
          rw [List.map_append, List.length_map, hus, List.take_zero, List.nil_append, Nat.zero_add, List.drop_append_of_le_length (by simp [noughts]), List.drop_eq_nil_of_le (by simp [noughts]), List.nil_append, List.map_append]
        rw [hrow5] at r5
        have hh5 := h1.1.kept k5 h1.pb
        rw [noughts_length] at hh5
        have h5 : NatAt w5 p b4 us rest4 := ⟨by rw [hus]; exact hh5, r5, wus, h1.2.2.2⟩
        have hkw4 : Kept (Both p b) w w4 := (HK.out.drew.mono (S' := Both p b) (fun _ _ e => e.elim)).trans h4
        have hkw5 : Kept (Both p b) w w5 := hkw4.step k5 (fun x hx e => by
          unfold OneBlk at e
          rcases h2 with h2 | h2
          · exact .inr (e.trans h2.1)
          · have : w.heap.size ≤ wr.drew.heap.size := HK.out.size
            omega)
        have hm5 := HM.out.away HX.out hpn hbn hkw5
        have hms := maybeSub_mod p b4 q pn bn c us rest4 ms mr true mi rv w5 hc h5 hm5 (hus.trans HN.out.symm) (by have := HN.out; omega) (by rw [hus]; exact HS.out)
        rw [hus] at hms
        have HMS := Lib.hid hms
        have HKW5 := Lib.hid hkw5
        have hb4 : b4 = b ∧ 16 + rest4.length = xs.length + rest.length ∨ w.heap.size ≤ b4 ∧ xs.length + rest.length < 16 := h2.imp (fun e => ⟨e.1, by have := e.2; rw [noughts_length] at this; exact this⟩) (fun e => ⟨Nat.le_trans HK.out.size e.1, by have := e.2; rw [noughts_length] at this; exact this⟩)
        have h3' : 16 + rest4.length ≤ max 16 (xs.length + rest.length) := by rw [noughts_length] at h3; exact h3
        have H3 := Lib.hid h3'
        have HB4 := Lib.hid hb4
        clear hrow5 r5 hh5 h5 hkw4 hkw5 hm5 hms hb4 h3 h3' h1 h2 h4 k5 hrun c5
        go_wp2_with fail
        refine HMS.out.mono ?_
        rintro e w6 ⟨rfl, zs, z1, z2, z3, z4⟩
        have hfin : MontPost p b 16 (val al) (val bl) (val ms) (xs.length + rest.length) w (.returned (.pointer (some ⟨p, 0, none⟩))) w6 := by
          refine ⟨rfl, b4, zs, rest4, z1, z2, HB4.out, H3.out, ?_, ?_, ?_⟩
          · refine HKW5.out.step z3 (fun x hx e => ?_)
            unfold OneBlk at e
            rcases HB4.out with h | h
            · exact .inr (e.trans h.1)
            · omega
          · rw [z4]; exact Nat.mod_lt _ (by have := HAV.out; omega)
          · rw [z4, Nat.mul_mod_mod, HI.out, Nat.add_mul_mod_self_left]
        have FIN := Lib.hid hfin
        clear hfin z1 z2 z3 z4 HMS
        go_wp2_with fail
        go_ret
        exact FIN.out

end Go.Proofs.YtdmpiecdpdknaaaGreatDoor
namespace Go.Proofs.YtdmpiecdpdknaaaGreatDoor
open Go.RowKit

set_option maxHeartbeats 1600000 in
set_option maxRecDepth 100000 in
theorem montMul_24 (p b pa ba pc bc q pn bn n : Nat) (xs rest al ar bl br ms mr : List Nat) (mi : Nat) (rv : Value) (w : World) (hx : NatAt w p b xs rest) (ha : NatAt w pa ba al ar) (hb : NatAt w pc bc bl br) (hm : ModAt w q pn bn ms mr true mi rv)
    (hn : ms.length = n) (hla : al.length = n) (hlb : bl.length = n) (_hn1 : 1 ≤ n) (hnm : n + mr.length ≤ 1000000) (hna : n + ar.length ≤ 1000000) (hnb : n + br.length ≤ 1000000) (hnk : n = 24) (hpn : pn ≠ p) (hbn : bn ≠ b)
    (hinv : ms.headD 0 * mi % 18446744073709551616 = 18446744073709551615) (hav : val al < val ms) :
    Calls Tryz.prog 73 #[.pointer (some ⟨p, 0, none⟩), .pointer (some ⟨pa, 0, none⟩), .pointer (some ⟨pc, 0, none⟩), .pointer (some ⟨q, 0, none⟩)] w
      (MontPost p b n (val al) (val bl) (val ms) (xs.length + rest.length) w) := by
  have cm := hm.ptr
  have cmi := hm.1.cellIs (i := 2) rfl
  have cn := hm.2.cell
  have ca := ha.cell
  have cb := hb.cell
  rw [hn] at cn
  rw [hla] at ca
  rw [hlb] at cb
  have HX := Lib.hid hx
  have HA := Lib.hid ha
  have HB := Lib.hid hb
  have HM := Lib.hid hm
  have HN := Lib.hid hn
  have HLA := Lib.hid hla
  have HLB := Lib.hid hlb
  have hmk48 : ∀ w' : World, (Instr.makeSlice 89 (.int .i64 48) (.int .i64 48)).run Tryz.prog w' = .ok (.slice (some ⟨w'.heap.size, 0, none⟩) 48 48) (w'.alloc (.cells (noughtRow 48) 67)) := fun w' => make_words w' 48 48 (by decide) (by decide)
  clear hx ha hb hm hn hla hlb
  subst hnk
  have hn1 : 1 ≤ 24 := by decide
  obtain ⟨g, hg⟩ : ∃ g, w.heap.size = g := ⟨_, rfl⟩
  obtain ⟨w1, hw1⟩ : ∃ w1, w.alloc (.cells (noughtRow 48) 67) = w1 := ⟨_, rfl⟩
  have hstart : MontSt g 24 48 (val al) (val ms) bl w 0 0 [] (noughts 24) (noughts (48 - 24)) 0 w1 := by
    rw [← hw1, ← hg]
    exact MontSt.start (Blk.new w _ _) (by omega) ((Kept.refl _ _).alloc _)
  have START := Lib.hid hstart
  have GB := Lib.hid hg
  have HINV := Lib.hid hinv
  have HAV := Lib.hid hav
  clear hinv hav hstart
  go_enter Tryz.func73, Tryz.ntmps73
  go_wp2_with fail
  go_loopw [28, 29] (fun cv iv wr => ∃ (i c : Nat) (pre us post : List Nat) (t : Nat), i ≤ 24 ∧ cv = .int .u64 c ∧ iv = .int .i64 i ∧ MontSt g 24 (48) (val al) (val ms) bl w i c pre us post t wr) (fun _ i _ => 24 - (intOf i).toNat)
  case atStart => exact ⟨0, 0, [], noughts 24, noughts (48 - 24), 0, Nat.zero_le _, rfl, rfl, START.out⟩
  case round =>
    obtain ⟨i, c, pre, us, post, t, hi, rfl, rfl, hc, hpre, hus, hpost, wus, wpost, hq, hI, hB, hK⟩ := hrel
    by_cases hlt : i < 24
    · have hgl : g < wr.heap.size := hB.lt
      have hng : ∀ k, k < w.heap.size → k ≠ g := fun k hk => by have := GB.out; omega
      have hil : i < bl.length := by have := HLB.out; omega
      have cbl := (HB.out.still hK).limb i hil
      obtain ⟨d, hd⟩ : ∃ d, bl[i] = d := ⟨_, rfl⟩
      have hdw : d < 18446744073709551616 := by rw [← hd]; exact HB.out.2.2.1.get i hil
      rw [hd] at cbl
      obtain ⟨z0, post', hpo⟩ : ∃ z0 post', post = z0 :: post' := by
        cases post with
        | nil => simp at hpost; omega
        | cons z zs => exact ⟨z, zs, rfl⟩
      have hrow : ∀ vs : List Nat, vs.length = 24 → ((pre ++ vs ++ post).map U)[24 + i]? = some (.int .u64 (z0 : Int)) := by
        intro vs hv
        rw [List.getElem?_map, List.getElem?_append_right (by simp [hpre, hv]; omega), hpo]
        simp [hpre, hv, Nat.add_comm, U]
      have cT : wr.cell? ⟨g, 24 + i, none⟩ = some (.int .u64 (z0 : Int)) := hB.cellIs (by rw [List.getElem?_toArray]; exact hrow us hus)
      have ha1 := (HA.out.still hK)
      have m1 := addMulVVW_any g i (48 - i) ba 0 24 (24 + ar.length) d pre us post al wr.drew hpre hB ha1.words (hng _ HA.out.lt.2) (by have := HLA.out; omega) (by have := HLA.out; omega) (by have := HLA.out; omega) (by omega) wus ha1.2.2.1 hdw
      rw [HLA.out] at m1
      have hii : (i : Int) < (24 : Int) := by omega
      have hni : ¬ 48 = i := by omega
      have hnn : (24 : Int) + (i : Int) < 48 := by omega
      have hn2 : (i : Int) + (24 : Int) ≤ 48 := by omega
      have hna2 : (24 : Int) ≤ (24 : Int) + (ar.length : Int) := by omega
      have hnm2 : (24 : Int) ≤ (24 : Int) + (mr.length : Int) := by omega
      have hsub : i + 24 - i = 24 := by omega
      have M1 := Lib.hid m1
      have HI := Lib.hid hI
      have HQ := Lib.hid hq
      have HD := Lib.hid hd
      have HPO := Lib.hid hpo
      have HROW := Lib.hid hrow
      have HK := Lib.hid hK
      clear m1 hI hq hd hpo hB ha1 hrow hK
      go_wp2_with fail
      have hw1 : IntKind.i64.wrap ((i : Int) + 24) = (i : Int) + 24 := IntWalk.i64_in _ (by omega)
      have hw2 : ((i : Int) + 24).toNat = i + 24 := by omega
      have hw3 : i ≤ i + 24 := by omega
      have hw4 : 0 ≤ (i : Int) + 24 := by omega
      go_still_tail 8, (by kernel_rfl)
      clear hw1 hw2 hw3 hw4
      change wpList _ _ _ _ _ wr.drew
      go_wp2_with fail
      refine M1.out.mono ?_
      rintro e w2 ⟨us1, c1, rfl, hc1, hu1, wu1, hv1, hB1, k1⟩
      obtain ⟨u, us1', hus1⟩ : ∃ u us1', us1 = u :: us1' := by
        cases us1 with
        | nil => first | (simp at hu1; done) | (simp at hu1; omega)
        | cons z zs => exact ⟨z, zs, rfl⟩
      have huw : u < 18446744073709551616 := wu1 u (by rw [hus1]; exact List.mem_cons_self ..)
      have cTi : w2.cell? ⟨g, i, none⟩ = some (.int .u64 (u : Int)) := hB1.cellIs (by
        rw [List.getElem?_toArray, List.getElem?_map, List.append_assoc, List.getElem?_append_right (by omega), hpre, hus1]; simp [U])
      have hK1 := HK.out.drew.fresh k1 (by have := GB.out; omega)
      have hm1 := HM.out.still hK1
      have cq2 := hm1.1.cellIs (i := 2) rfl
      have hs1 := hK1.size
      obtain ⟨Y, hY⟩ : ∃ Y, u * mi % 18446744073709551616 = Y := ⟨_, rfl⟩
      have hYi : IntKind.u64.wrap ((u : Int) * (mi : Int)) = (Y : Int) := by rw [Mul64.mulN, Mul64.wrapM, hY]
      have hYw : Y < 18446744073709551616 := by rw [← hY]; exact Nat.mod_lt _ (by decide)
      have m2 : ∀ nq, _ := fun nq => addMulVVW_any g i (48 - i) bn 0 24 (24 + mr.length) Y pre us1 post ms (w2.drewN nq).drew hpre (hB1.drewN nq).drew (hm1.2.drewN nq).drew.words (hng _ HM.out.2.lt.2) (by have := HN.out; omega) (by have := HN.out; omega) (by have := HN.out; omega) (by omega) wu1 hm1.2.2.2.1 hYw
      rw [HN.out] at m2
      have M2 := Lib.hid m2
      have HV1 := Lib.hid hv1
      have HY := Lib.hid hY
      have HUS1 := Lib.hid hus1
      have HU1 := Lib.hid hu1
      have HK1 := Lib.hid hK1
      clear m2 hv1 hY hus1 hu1 hK1 hB1 k1 hm1 M1
      go_wp2_with fail
      go_quiet (fail)
      go_wp2_with fail
      have hw1 : IntKind.i64.wrap ((i : Int) + 24) = (i : Int) + 24 := IntWalk.i64_in _ (by omega)
      have hw2 : ((i : Int) + 24).toNat = i + 24 := by omega
      have hw3 : i ≤ i + 24 := by omega
      have hw4 : 0 ≤ (i : Int) + 24 := by omega
      go_still_tail 8, (by kernel_rfl)
      clear hw1 hw2 hw3 hw4
      change wpList _ _ _ _ _ (w2.drewN nq).drew
      go_wp2_with fail
      refine (M2.out _).mono ?_
      rintro e w3 ⟨us2, c2, rfl, hc2, hu2, wu2, hv2, hB2, k2⟩
      have hms : ∃ m0 ms', ms = m0 :: ms' := by
        have := HN.out
        cases ms with
        | nil => first | (simp at this; done) | (simp at this; omega)
        | cons z zs => exact ⟨z, zs, rfl⟩
      obtain ⟨m0, ms', hms⟩ := hms
      have hm0w : m0 < 18446744073709551616 := HM.out.2.2.2.1 m0 (by rw [hms]; exact List.mem_cons_self ..)
      have hinv2 : m0 * mi % 18446744073709551616 = 18446744073709551615 := by have := HINV.out; rw [hms] at this; simpa using this
      obtain ⟨us3, hus3⟩ := mont_head 24 (val ms) Y c2 u mi m0 us1' us2 ms' hu2 hn1 wu2 hm0w (by rw [hms]) huw (by rw [← HUS1.out]; exact hv2) hinv2 HY.out.symm
      obtain ⟨s, c', hs, hsl⟩ : ∃ s c', c1 + c2 + c = s + 18446744073709551616 * c' ∧ s < 18446744073709551616 := ⟨(c1 + c2 + c) % 18446744073709551616, (c1 + c2 + c) / 18446744073709551616, by omega, by omega⟩
      have hc'1 : c' ≤ 1 := by omega
      have madd := bitsAdd_is c1 c2 c s c' hc hsl hs
      have hu3 : us3.length + 1 = 24 := by rw [hus3] at hu2; simpa using hu2
      have hstep := mont_step 24 (val al) (val ms) d Y i c c1 c2 s c' t (val (bl.take i)) us us1 us3 hu3 HV1.out (by rw [← hus3]; exact hv2) hs HI.out
      have htake : val (bl.take i) + Pw i * d = val (bl.take (i + 1)) := by rw [val_take_succ bl i hil, HD.out]
      rw [htake] at hstep
      have hq2 : t + Pw i * Y < Pw (i + 1) := by
        rw [Pw_succ]
        have := HQ.out
        have := Nat.mul_le_mul_left (Pw i) (show Y ≤ 18446744073709551615 by omega)
        omega
      have hset := (hB2.set_ (24 + i) (.int .u64 (s : Int)))
      have hrow2 : ((pre ++ us2 ++ post).map U).toArray.setIfInBounds (24 + i) (.int .u64 (s : Int)) = (((pre ++ [0]) ++ (us3 ++ [s]) ++ post').map U).toArray := by
        rw [HPO.out, hus3, List.setIfInBounds_toArray, List.map_append, List.set_append_right _ _ (by simp [hpre]; omega)]
        have e0 : 24 + i - ((pre ++ 0 :: us3).map U).length = 0 := by simp [hpre]; omega
        rw [e0]
        simp [U]
      rw [hrow2] at hset
      have hK3 := ((HK1.out.drewN nq).drew).fresh k2 (by have := GB.out; omega)
      have hst : MontSt g 24 (48) (val al) (val ms) bl w (i + 1) c' (pre ++ [0]) (us3 ++ [s]) post' (t + Pw i * Y) (w3.setCell ⟨g, 24 + i, none⟩ (.int .u64 (s : Int))) := by
        refine ⟨hc'1, by simp [hpre], by simp; omega, ?_, ?_, ?_, hq2, hstep, hset, hK3.setNew (by have := GB.out; omega) _ _⟩
        · rw [HPO.out] at hpost; simp at hpost; omega
        · rw [hus3] at wu2
          exact Wd.snoc (fun x hx => wu2 x (List.mem_cons_of_mem _ hx)) hsl
        · have := wpost
          rw [HPO.out] at this
          exact fun x hx => this x (List.mem_cons_of_mem _ hx)
      have cT3 : w3.cell? ⟨g, 24 + i, none⟩ = some (.int .u64 (z0 : Int)) := hB2.cellIs (by rw [List.getElem?_toArray]; exact HROW.out us2 hu2)
      have f3 := hB2.frozen (24 + i)
      have MADD := Lib.hid madd
      have ST := Lib.hid hst
      clear madd hst hset hrow2 hK3 hstep htake hq2 hs hu3 hus3 hu2 hv2 hB2 k2 M2 hms hinv2
      go_wp2_with fail
      refine (MADD.out _).mono ?_
      rintro e w' ⟨rfl, rfl⟩
      go_wp2_with fail
      go_roundw
      case rel => exact ⟨i + 1, c', _, _, _, _, by omega, rfl, by go_num, ST.out⟩
      case measure => simp [intOf]; omega
    · obtain rfl : i = 24 := by omega
      rw [show ((24 : Nat) : Int) = 24 from rfl]
      rw [List.take_of_length_le (by have := HLB.out; omega)] at hI
      have hS := mont_end 24 (val al) (val bl) (val ms) t _ hI hq HAV.out (by have := val_lt bl HB.out.2.2.1; rw [HLB.out] at this; exact this)
      have HS := Lib.hid hS
      have HI := Lib.hid hI
      have HBB := Lib.hid hB
      have HK := Lib.hid hK
      clear hS hI hB hK
      go_wp2_with fail
      have hx1 := HX.out.still HK.out
      have hgb : g ≠ p ∧ g ≠ b := by have := GB.out; have := HX.out.lt; omega
      have hr := reset_any p b 24 xs rest wr.drew hx1 (by omega)
      have HR := Lib.hid hr
      have hat : ∀ w4 : World, Kept (Both p b) wr.drew w4 → At w4 (some ⟨g, 24, none⟩) (us.map U) := by
        intro w4 k4
        have hb4 := (show Blk wr.drew g 67 _ from HBB.out).kept k4 (fun e => e.elim hgb.1 hgb.2)
        refine .inr ⟨g, 24, rfl, hb4.lt, fun j u hu => hb4.cellIs ?_⟩
        have hjl := (List.getElem?_eq_some_iff.1 hu).1
        rw [List.getElem?_toArray, List.map_append, List.getElem?_append_left (by simp at hjl ⊢; omega), List.map_append, List.getElem?_append_right (by simp [hpre]), List.length_map, hpre, Nat.add_sub_cancel_left]
        exact hu
      have HAT := Lib.hid hat
      clear hr hx1 hat
      go_region_with (go_at_call 77; refine HR.out.mono ?_; rintro e w4 ⟨rfl, b4, rest4, h1, h2, h3, h4⟩; obtain ⟨w5, hrun, r5, k5⟩ := run_copy_words w4 3 (some ⟨b4, 0, none⟩) (some ⟨g, 24, none⟩) 24 (24 + rest4.length) 24 24 b4 0 ((noughts 24 ++ rest4).map U) 67 h1.2.1 us (HAT.out w4 h4) hus.symm 24 (by omega) (fun _ => rfl) (by simp [noughts]); have c5 := h1.cell; rw [noughts_length] at c5)
      all_goals
        have hrow5 : splice ((noughts 24 ++ rest4).map U) 0 ((us.take 24).map U) = (us ++ rest4).map U := by
          rw [List.take_of_length_le (by omega)]
          unfold splice
          rw [List.map_append, List.length_map, hus, List.take_zero, List.nil_append, Nat.zero_add, List.drop_append_of_le_length (by simp [noughts]), List.drop_eq_nil_of_le (by simp [noughts]), List.nil_append, List.map_append]
        rw [hrow5] at r5
        have hh5 := h1.1.kept k5 h1.pb
        rw [noughts_length] at hh5
        have h5 : NatAt w5 p b4 us rest4 := ⟨by rw [hus]; exact hh5, r5, wus, h1.2.2.2⟩
        have hkw4 : Kept (Both p b) w w4 := (HK.out.drew.mono (S' := Both p b) (fun _ _ e => e.elim)).trans h4
        have hkw5 : Kept (Both p b) w w5 := hkw4.step k5 (fun x hx e => by
          unfold OneBlk at e
          rcases h2 with h2 | h2
          · exact .inr (e.trans h2.1)
          · have : w.heap.size ≤ wr.drew.heap.size := HK.out.size
            omega)
        have hm5 := HM.out.away HX.out hpn hbn hkw5
        have hms := maybeSub_mod p b4 q pn bn c us rest4 ms mr true mi rv w5 hc h5 hm5 (hus.trans HN.out.symm) (by have := HN.out; omega) (by rw [hus]; exact HS.out)
        rw [hus] at hms
        have HMS := Lib.hid hms
        have HKW5 := Lib.hid hkw5
        have hb4 : b4 = b ∧ 24 + rest4.length = xs.length + rest.length ∨ w.heap.size ≤ b4 ∧ xs.length + rest.length < 24 := h2.imp (fun e => ⟨e.1, by have := e.2; rw [noughts_length] at this; exact this⟩) (fun e => ⟨Nat.le_trans HK.out.size e.1, by have := e.2; rw [noughts_length] at this; exact this⟩)
        have h3' : 24 + rest4.length ≤ max 24 (xs.length + rest.length) := by rw [noughts_length] at h3; exact h3
        have H3 := Lib.hid h3'
        have HB4 := Lib.hid hb4
        clear hrow5 r5 hh5 h5 hkw4 hkw5 hm5 hms hb4 h3 h3' h1 h2 h4 k5 hrun c5
        go_wp2_with fail
        refine HMS.out.mono ?_
        rintro e w6 ⟨rfl, zs, z1, z2, z3, z4⟩
        have hfin : MontPost p b 24 (val al) (val bl) (val ms) (xs.length + rest.length) w (.returned (.pointer (some ⟨p, 0, none⟩))) w6 := by
          refine ⟨rfl, b4, zs, rest4, z1, z2, HB4.out, H3.out, ?_, ?_, ?_⟩
          · refine HKW5.out.step z3 (fun x hx e => ?_)
            unfold OneBlk at e
            rcases HB4.out with h | h
            · exact .inr (e.trans h.1)
            · omega
          · rw [z4]; exact Nat.mod_lt _ (by have := HAV.out; omega)
          · rw [z4, Nat.mul_mod_mod, HI.out, Nat.add_mul_mod_self_left]
        have FIN := Lib.hid hfin
        clear hfin z1 z2 z3 z4 HMS
        go_wp2_with fail
        go_ret
        exact FIN.out

end Go.Proofs.YtdmpiecdpdknaaaGreatDoor
namespace Go.Proofs.YtdmpiecdpdknaaaGreatDoor
open Go.RowKit

set_option maxHeartbeats 1600000 in
set_option maxRecDepth 100000 in
theorem montMul_32 (p b pa ba pc bc q pn bn n : Nat) (xs rest al ar bl br ms mr : List Nat) (mi : Nat) (rv : Value) (w : World) (hx : NatAt w p b xs rest) (ha : NatAt w pa ba al ar) (hb : NatAt w pc bc bl br) (hm : ModAt w q pn bn ms mr true mi rv)
    (hn : ms.length = n) (hla : al.length = n) (hlb : bl.length = n) (_hn1 : 1 ≤ n) (hnm : n + mr.length ≤ 1000000) (hna : n + ar.length ≤ 1000000) (hnb : n + br.length ≤ 1000000) (hnk : n = 32) (hpn : pn ≠ p) (hbn : bn ≠ b)
    (hinv : ms.headD 0 * mi % 18446744073709551616 = 18446744073709551615) (hav : val al < val ms) :
    Calls Tryz.prog 73 #[.pointer (some ⟨p, 0, none⟩), .pointer (some ⟨pa, 0, none⟩), .pointer (some ⟨pc, 0, none⟩), .pointer (some ⟨q, 0, none⟩)] w
      (MontPost p b n (val al) (val bl) (val ms) (xs.length + rest.length) w) := by
  have cm := hm.ptr
  have cmi := hm.1.cellIs (i := 2) rfl
  have cn := hm.2.cell
  have ca := ha.cell
  have cb := hb.cell
  rw [hn] at cn
  rw [hla] at ca
  rw [hlb] at cb
  have HX := Lib.hid hx
  have HA := Lib.hid ha
  have HB := Lib.hid hb
  have HM := Lib.hid hm
  have HN := Lib.hid hn
  have HLA := Lib.hid hla
  have HLB := Lib.hid hlb
  have hmk64 : ∀ w' : World, (Instr.makeSlice 89 (.int .i64 64) (.int .i64 64)).run Tryz.prog w' = .ok (.slice (some ⟨w'.heap.size, 0, none⟩) 64 64) (w'.alloc (.cells (noughtRow 64) 67)) := fun w' => make_words w' 64 64 (by decide) (by decide)
  clear hx ha hb hm hn hla hlb
  subst hnk
  have hn1 : 1 ≤ 32 := by decide
  obtain ⟨g, hg⟩ : ∃ g, w.heap.size = g := ⟨_, rfl⟩
  obtain ⟨w1, hw1⟩ : ∃ w1, w.alloc (.cells (noughtRow 64) 67) = w1 := ⟨_, rfl⟩
  have hstart : MontSt g 32 64 (val al) (val ms) bl w 0 0 [] (noughts 32) (noughts (64 - 32)) 0 w1 := by
    rw [← hw1, ← hg]
    exact MontSt.start (Blk.new w _ _) (by omega) ((Kept.refl _ _).alloc _)
  have START := Lib.hid hstart
  have GB := Lib.hid hg
  have HINV := Lib.hid hinv
  have HAV := Lib.hid hav
  clear hinv hav hstart
  go_enter Tryz.func73, Tryz.ntmps73
  go_wp2_with fail
  go_loopw [35, 36] (fun cv iv wr => ∃ (i c : Nat) (pre us post : List Nat) (t : Nat), i ≤ 32 ∧ cv = .int .u64 c ∧ iv = .int .i64 i ∧ MontSt g 32 (64) (val al) (val ms) bl w i c pre us post t wr) (fun _ i _ => 32 - (intOf i).toNat)
  case atStart => exact ⟨0, 0, [], noughts 32, noughts (64 - 32), 0, Nat.zero_le _, rfl, rfl, START.out⟩
  case round =>
    obtain ⟨i, c, pre, us, post, t, hi, rfl, rfl, hc, hpre, hus, hpost, wus, wpost, hq, hI, hB, hK⟩ := hrel
    by_cases hlt : i < 32
    · have hgl : g < wr.heap.size := hB.lt
      have hng : ∀ k, k < w.heap.size → k ≠ g := fun k hk => by have := GB.out; omega
      have hil : i < bl.length := by have := HLB.out; omega
      have cbl := (HB.out.still hK).limb i hil
      obtain ⟨d, hd⟩ : ∃ d, bl[i] = d := ⟨_, rfl⟩
      have hdw : d < 18446744073709551616 := by rw [← hd]; exact HB.out.2.2.1.get i hil
      rw [hd] at cbl
      obtain ⟨z0, post', hpo⟩ : ∃ z0 post', post = z0 :: post' := by
        cases post with
        | nil => simp at hpost; omega
        | cons z zs => exact ⟨z, zs, rfl⟩
      have hrow : ∀ vs : List Nat, vs.length = 32 → ((pre ++ vs ++ post).map U)[32 + i]? = some (.int .u64 (z0 : Int)) := by
        intro vs hv
        rw [List.getElem?_map, List.getElem?_append_right (by simp [hpre, hv]; omega), hpo]
        simp [hpre, hv, Nat.add_comm, U]
      have cT : wr.cell? ⟨g, 32 + i, none⟩ = some (.int .u64 (z0 : Int)) := hB.cellIs (by rw [List.getElem?_toArray]; exact hrow us hus)
      have ha1 := (HA.out.still hK)
      have m1 := addMulVVW_any g i (64 - i) ba 0 32 (32 + ar.length) d pre us post al wr.drew hpre hB ha1.words (hng _ HA.out.lt.2) (by have := HLA.out; omega) (by have := HLA.out; omega) (by have := HLA.out; omega) (by omega) wus ha1.2.2.1 hdw
      rw [HLA.out] at m1
      have hii : (i : Int) < (32 : Int) := by omega
      have hni : ¬ 64 = i := by omega
      have hnn : (32 : Int) + (i : Int) < 64 := by omega
      have hn2 : (i : Int) + (32 : Int) ≤ 64 := by omega
      have hna2 : (32 : Int) ≤ (32 : Int) + (ar.length : Int) := by omega
      have hnm2 : (32 : Int) ≤ (32 : Int) + (mr.length : Int) := by omega
      have hsub : i + 32 - i = 32 := by omega
      have M1 := Lib.hid m1
      have HI := Lib.hid hI
      have HQ := Lib.hid hq
      have HD := Lib.hid hd
      have HPO := Lib.hid hpo
      have HROW := Lib.hid hrow
      have HK := Lib.hid hK
      clear m1 hI hq hd hpo hB ha1 hrow hK
      go_wp2_with fail
      have hw1 : IntKind.i64.wrap ((i : Int) + 32) = (i : Int) + 32 := IntWalk.i64_in _ (by omega)
      have hw2 : ((i : Int) + 32).toNat = i + 32 := by omega
      have hw3 : i ≤ i + 32 := by omega
      have hw4 : 0 ≤ (i : Int) + 32 := by omega
      go_still_tail 8, (by kernel_rfl)
      clear hw1 hw2 hw3 hw4
      change wpList _ _ _ _ _ wr.drew
      go_wp2_with fail
      refine M1.out.mono ?_
      rintro e w2 ⟨us1, c1, rfl, hc1, hu1, wu1, hv1, hB1, k1⟩
      obtain ⟨u, us1', hus1⟩ : ∃ u us1', us1 = u :: us1' := by
        cases us1 with
        | nil => first | (simp at hu1; done) | (simp at hu1; omega)
        | cons z zs => exact ⟨z, zs, rfl⟩
      have huw : u < 18446744073709551616 := wu1 u (by rw [hus1]; exact List.mem_cons_self ..)
      have cTi : w2.cell? ⟨g, i, none⟩ = some (.int .u64 (u : Int)) := hB1.cellIs (by
        rw [List.getElem?_toArray, List.getElem?_map, List.append_assoc, List.getElem?_append_right (by omega), hpre, hus1]; simp [U])
      have hK1 := HK.out.drew.fresh k1 (by have := GB.out; omega)
      have hm1 := HM.out.still hK1
      have cq2 := hm1.1.cellIs (i := 2) rfl
      have hs1 := hK1.size
      obtain ⟨Y, hY⟩ : ∃ Y, u * mi % 18446744073709551616 = Y := ⟨_, rfl⟩
      have hYi : IntKind.u64.wrap ((u : Int) * (mi : Int)) = (Y : Int) := by rw [Mul64.mulN, Mul64.wrapM, hY]
      have hYw : Y < 18446744073709551616 := by rw [← hY]; exact Nat.mod_lt _ (by decide)
      have m2 : ∀ nq, _ := fun nq => addMulVVW_any g i (64 - i) bn 0 32 (32 + mr.length) Y pre us1 post ms (w2.drewN nq).drew hpre (hB1.drewN nq).drew (hm1.2.drewN nq).drew.words (hng _ HM.out.2.lt.2) (by have := HN.out; omega) (by have := HN.out; omega) (by have := HN.out; omega) (by omega) wu1 hm1.2.2.2.1 hYw
      rw [HN.out] at m2
      have M2 := Lib.hid m2
      have HV1 := Lib.hid hv1
      have HY := Lib.hid hY
      have HUS1 := Lib.hid hus1
      have HU1 := Lib.hid hu1
      have HK1 := Lib.hid hK1
      clear m2 hv1 hY hus1 hu1 hK1 hB1 k1 hm1 M1
      go_wp2_with fail
      go_quiet (fail)
      go_wp2_with fail
      have hw1 : IntKind.i64.wrap ((i : Int) + 32) = (i : Int) + 32 := IntWalk.i64_in _ (by omega)
      have hw2 : ((i : Int) + 32).toNat = i + 32 := by omega
      have hw3 : i ≤ i + 32 := by omega
      have hw4 : 0 ≤ (i : Int) + 32 := by omega
      go_still_tail 8, (by kernel_rfl)
      clear hw1 hw2 hw3 hw4
      change wpList _ _ _ _ _ (w2.drewN nq).drew
      go_wp2_with fail
      refine (M2.out _).mono ?_
      rintro e w3 ⟨us2, c2, rfl, hc2, hu2, wu2, hv2, hB2, k2⟩
      have hms : ∃ m0 ms', ms = m0 :: ms' := by
        have := HN.out
        cases ms with
        | nil => first | (simp at this; done) | (simp at this; omega)
        | cons z zs => exact ⟨z, zs, rfl⟩
      obtain ⟨m0, ms', hms⟩ := hms
      have hm0w : m0 < 18446744073709551616 := HM.out.2.2.2.1 m0 (by rw [hms]; exact List.mem_cons_self ..)
      have hinv2 : m0 * mi % 18446744073709551616 = 18446744073709551615 := by have := HINV.out; rw [hms] at this; simpa using this
      obtain ⟨us3, hus3⟩ := mont_head 32 (val ms) Y c2 u mi m0 us1' us2 ms' hu2 hn1 wu2 hm0w (by rw [hms]) huw (by rw [← HUS1.out]; exact hv2) hinv2 HY.out.symm
      obtain ⟨s, c', hs, hsl⟩ : ∃ s c', c1 + c2 + c = s + 18446744073709551616 * c' ∧ s < 18446744073709551616 := ⟨(c1 + c2 + c) % 18446744073709551616, (c1 + c2 + c) / 18446744073709551616, by omega, by omega⟩
      have hc'1 : c' ≤ 1 := by omega
      have madd := bitsAdd_is c1 c2 c s c' hc hsl hs
      have hu3 : us3.length + 1 = 32 := by rw [hus3] at hu2; simpa using hu2
      have hstep := mont_step 32 (val al) (val ms) d Y i c c1 c2 s c' t (val (bl.take i)) us us1 us3 hu3 HV1.out (by rw [← hus3]; exact hv2) hs HI.out
      have htake : val (bl.take i) + Pw i * d = val (bl.take (i + 1)) := by rw [val_take_succ bl i hil, HD.out]
      rw [htake] at hstep
      have hq2 : t + Pw i * Y < Pw (i + 1) := by
        rw [Pw_succ]
        have := HQ.out
        have := Nat.mul_le_mul_left (Pw i) (show Y ≤ 18446744073709551615 by omega)
        omega
      have hset := (hB2.set_ (32 + i) (.int .u64 (s : Int)))
      have hrow2 : ((pre ++ us2 ++ post).map U).toArray.setIfInBounds (32 + i) (.int .u64 (s : Int)) = (((pre ++ [0]) ++ (us3 ++ [s]) ++ post').map U).toArray := by
        rw [HPO.out, hus3, List.setIfInBounds_toArray, List.map_append, List.set_append_right _ _ (by simp [hpre]; omega)]
        have e0 : 32 + i - ((pre ++ 0 :: us3).map U).length = 0 := by simp [hpre]; omega
        rw [e0]
        simp [U]
      rw [hrow2] at hset
      have hK3 := ((HK1.out.drewN nq).drew).fresh k2 (by have := GB.out; omega)
      have hst : MontSt g 32 (64) (val al) (val ms) bl w (i + 1) c' (pre ++ [0]) (us3 ++ [s]) post' (t + Pw i * Y) (w3.setCell ⟨g, 32 + i, none⟩ (.int .u64 (s : Int))) := by
        refine ⟨hc'1, by simp [hpre], by simp; omega, ?_, ?_, ?_, hq2, hstep, hset, hK3.setNew (by have := GB.out; omega) _ _⟩
        · rw [HPO.out] at hpost; simp at hpost; omega
        · rw [hus3] at wu2
          exact Wd.snoc (fun x hx => wu2 x (List.mem_cons_of_mem _ hx)) hsl
        · have := wpost
          rw [HPO.out] at this
          exact fun x hx => this x (List.mem_cons_of_mem _ hx)
      have cT3 : w3.cell? ⟨g, 32 + i, none⟩ = some (.int .u64 (z0 : Int)) := hB2.cellIs (by rw [List.getElem?_toArray]; exact HROW.out us2 hu2)
      have f3 := hB2.frozen (32 + i)
      have MADD := Lib.hid madd
      have ST := Lib.hid hst
      clear madd hst hset hrow2 hK3 hstep htake hq2 hs hu3 hus3 hu2 hv2 hB2 k2 M2 hms hinv2
      go_wp2_with fail
      refine (MADD.out _).mono ?_
      rintro e w' ⟨rfl, rfl⟩
      go_wp2_with fail
      go_roundw
      case rel => exact ⟨i + 1, c', _, _, _, _, by omega, rfl, by go_num, ST.out⟩
      case measure => simp [intOf]; omega
    · obtain rfl : i = 32 := by omega
      rw [show ((32 : Nat) : Int) = 32 from rfl]
      rw [List.take_of_length_le (by have := HLB.out; omega)] at hI
      have hS := mont_end 32 (val al) (val bl) (val ms) t _ hI hq HAV.out (by have := val_lt bl HB.out.2.2.1; rw [HLB.out] at this; exact this)
      have HS := Lib.hid hS
      have HI := Lib.hid hI
      have HBB := Lib.hid hB
      have HK := Lib.hid hK
      clear hS hI hB hK
      go_wp2_with fail
      have hx1 := HX.out.still HK.out
      have hgb : g ≠ p ∧ g ≠ b := by have := GB.out; have := HX.out.lt; omega
      have hr := reset_any p b 32 xs rest wr.drew hx1 (by omega)
      have HR := Lib.hid hr
      have hat : ∀ w4 : World, Kept (Both p b) wr.drew w4 → At w4 (some ⟨g, 32, none⟩) (us.map U) := by
        intro w4 k4
        have hb4 := (show Blk wr.drew g 67 _ from HBB.out).kept k4 (fun e => e.elim hgb.1 hgb.2)
        refine .inr ⟨g, 32, rfl, hb4.lt, fun j u hu => hb4.cellIs ?_⟩
        have hjl := (List.getElem?_eq_some_iff.1 hu).1
        rw [List.getElem?_toArray, List.map_append, List.getElem?_append_left (by simp at hjl ⊢; omega), List.map_append, List.getElem?_append_right (by simp [hpre]), List.length_map, hpre, Nat.add_sub_cancel_left]
        exact hu
      have HAT := Lib.hid hat
      clear hr hx1 hat
      go_region_with (go_at_call 77; refine HR.out.mono ?_; rintro e w4 ⟨rfl, b4, rest4, h1, h2, h3, h4⟩; obtain ⟨w5, hrun, r5, k5⟩ := run_copy_words w4 3 (some ⟨b4, 0, none⟩) (some ⟨g, 32, none⟩) 32 (32 + rest4.length) 32 32 b4 0 ((noughts 32 ++ rest4).map U) 67 h1.2.1 us (HAT.out w4 h4) hus.symm 32 (by omega) (fun _ => rfl) (by simp [noughts]); have c5 := h1.cell; rw [noughts_length] at c5)
      all_goals
        have hrow5 : splice ((noughts 32 ++ rest4).map U) 0 ((us.take 32).map U) = (us ++ rest4).map U := by
          rw [List.take_of_length_le (by omega)]
          unfold splice
          rw [List.map_append, List.length_map, hus, List.take_zero, List.nil_append, Nat.zero_add, List.drop_append_of_le_length (by simp [noughts]), List.drop_eq_nil_of_le (by simp [noughts]), List.nil_append, List.map_append]
        rw [hrow5] at r5
        have hh5 := h1.1.kept k5 h1.pb
        rw [noughts_length] at hh5
        have h5 : NatAt w5 p b4 us rest4 := ⟨by rw [hus]; exact hh5, r5, wus, h1.2.2.2⟩
        have hkw4 : Kept (Both p b) w w4 := (HK.out.drew.mono (S' := Both p b) (fun _ _ e => e.elim)).trans h4
        have hkw5 : Kept (Both p b) w w5 := hkw4.step k5 (fun x hx e => by
          unfold OneBlk at e
          rcases h2 with h2 | h2
          · exact .inr (e.trans h2.1)
          · have : w.heap.size ≤ wr.drew.heap.size := HK.out.size
            omega)
        have hm5 := HM.out.away HX.out hpn hbn hkw5
        have hms := maybeSub_mod p b4 q pn bn c us rest4 ms mr true mi rv w5 hc h5 hm5 (hus.trans HN.out.symm) (by have := HN.out; omega) (by rw [hus]; exact HS.out)
        rw [hus] at hms
        have HMS := Lib.hid hms
        have HKW5 := Lib.hid hkw5
        have hb4 : b4 = b ∧ 32 + rest4.length = xs.length + rest.length ∨ w.heap.size ≤ b4 ∧ xs.length + rest.length < 32 := h2.imp (fun e => ⟨e.1, by have := e.2; rw [noughts_length] at this; exact this⟩) (fun e => ⟨Nat.le_trans HK.out.size e.1, by have := e.2; rw [noughts_length] at this; exact this⟩)
        have h3' : 32 + rest4.length ≤ max 32 (xs.length + rest.length) := by rw [noughts_length] at h3; exact h3
        have H3 := Lib.hid h3'
        have HB4 := Lib.hid hb4
        clear hrow5 r5 hh5 h5 hkw4 hkw5 hm5 hms hb4 h3 h3' h1 h2 h4 k5 hrun c5
        go_wp2_with fail
        refine HMS.out.mono ?_
        rintro e w6 ⟨rfl, zs, z1, z2, z3, z4⟩
        have hfin : MontPost p b 32 (val al) (val bl) (val ms) (xs.length + rest.length) w (.returned (.pointer (some ⟨p, 0, none⟩))) w6 := by
          refine ⟨rfl, b4, zs, rest4, z1, z2, HB4.out, H3.out, ?_, ?_, ?_⟩
          · refine HKW5.out.step z3 (fun x hx e => ?_)
            unfold OneBlk at e
            rcases HB4.out with h | h
            · exact .inr (e.trans h.1)
            · omega
          · rw [z4]; exact Nat.mod_lt _ (by have := HAV.out; omega)
          · rw [z4, Nat.mul_mod_mod, HI.out, Nat.add_mul_mod_self_left]
        have FIN := Lib.hid hfin
        clear hfin z1 z2 z3 z4 HMS
        go_wp2_with fail
        go_ret
        exact FIN.out

end Go.Proofs.YtdmpiecdpdknaaaGreatDoor
namespace Go.Proofs.YtdmpiecdpdknaaaGreatDoor
open Go.RowKit

theorem montMul_any (p b pa ba pc bc q pn bn n : Nat) (xs rest al ar bl br ms mr : List Nat) (mi : Nat) (rv : Value) (w : World) (hx : NatAt w p b xs rest) (ha : NatAt w pa ba al ar) (hb : NatAt w pc bc bl br) (hm : ModAt w q pn bn ms mr true mi rv)
    (hn : ms.length = n) (hla : al.length = n) (hlb : bl.length = n) (hn1 : 1 ≤ n) (hnm : n + mr.length ≤ 1000000) (hna : n + ar.length ≤ 1000000) (hnb : n + br.length ≤ 1000000) (hpn : pn ≠ p) (hbn : bn ≠ b)
    (hinv : ms.headD 0 * mi % 18446744073709551616 = 18446744073709551615) (hav : val al < val ms) :
    Calls Tryz.prog 73 #[.pointer (some ⟨p, 0, none⟩), .pointer (some ⟨pa, 0, none⟩), .pointer (some ⟨pc, 0, none⟩), .pointer (some ⟨q, 0, none⟩)] w
      (MontPost p b n (val al) (val bl) (val ms) (xs.length + rest.length) w) := by
  by_cases h16 : n = 16
  · exact montMul_16 p b pa ba pc bc q pn bn n xs rest al ar bl br ms mr mi rv w hx ha hb hm hn hla hlb hn1 hnm hna hnb h16 hpn hbn hinv hav
  by_cases h24 : n = 24
  · exact montMul_24 p b pa ba pc bc q pn bn n xs rest al ar bl br ms mr mi rv w hx ha hb hm hn hla hlb hn1 hnm hna hnb h24 hpn hbn hinv hav
  by_cases h32 : n = 32
  · exact montMul_32 p b pa ba pc bc q pn bn n xs rest al ar bl br ms mr mi rv w hx ha hb hm hn hla hlb hn1 hnm hna hnb h32 hpn hbn hinv hav
  by_cases h64 : 64 < n * 2
  · exact montMul_big p b pa ba pc bc q pn bn n xs rest al ar bl br ms mr mi rv w hx ha hb hm hn hla hlb hn1 hnm hna hnb h16 h24 h32 h64 hpn hbn hinv hav
  · exact montMul_small p b pa ba pc bc q pn bn n xs rest al ar bl br ms mr mi rv w hx ha hb hm hn hla hlb hn1 hnm hna hnb h16 h24 h32 h64 hpn hbn hinv hav

end Go.Proofs.YtdmpiecdpdknaaaGreatDoor
