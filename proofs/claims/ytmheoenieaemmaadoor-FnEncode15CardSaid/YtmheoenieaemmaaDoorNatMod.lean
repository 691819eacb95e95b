/-
  bigmod.Nat: maybeSubtractModulus, Add, Sub, SubOne.
-/
import Derived.Test.YtmheoenieaemmaaDoorNatSet
namespace Go.Proofs.YtmheoenieaemmaaDoor
open Go.RowKit

/-- Where a step of its own ends: only block b has turned, new ones apart. -/
theorem kept_one {w w1 w2 w3 : World} {b b' : Nat} (h1 : Kept NoBlk w w1) (h2 : Kept (OneBlk b') w1 w2) (hb : w.heap.size ≤ b') (h3 : Kept (OneBlk b) w2 w3) : Kept (OneBlk b) w w3 :=
  ((h1.fresh h2 hb).mono (S' := OneBlk b) (fun _ _ e => e.elim)).trans h3

theorem maybeSub_any (p b q pn bn c : Nat) (xs rest ms mr : List Nat) (od : Bool) (mi : Nat) (rv : Value) (w : World) (hc : c ≤ 1) (hx : NatAt w p b xs rest) (hm : ModAt w q pn bn ms mr od mi rv) (hl : xs.length = ms.length) (hn : ms.length + mr.length ≤ 1000000) :
    Calls Tryd.prog 114 #[.pointer (some ⟨p, 0, none⟩), .int .u64 c, .pointer (some ⟨q, 0, none⟩)] w fun e w' =>
      e = .returned (.tuple #[]) ∧ ∃ zs : List Nat, zs.length = xs.length ∧ NatAt w' p b zs rest ∧ Kept (OneBlk b) w w' ∧
        ((val xs < val ms ∧ c = 0 ∧ zs = xs) ∨ (¬ (val xs < val ms ∧ c = 0) ∧ ∃ k ≤ 1, (k = 0 ↔ val ms ≤ val xs) ∧ val zs + val ms = val xs + Pw xs.length * k)) := by
  have HX := Lib.hid hx
  have HM := Lib.hid hm
  have hpl := hx.lt
  have hml := hm.2.lt
  clear hx hm
  go_enter Tryd.func114, Tryd.ntmps114
  go_wp2_with fail
  refine (newNat_any w).mono ?_
  rintro e w1 ⟨rfl, h1, k1⟩
  have hs1 := k1.size
  have hs := set_any (w.heap.size + 1) w.heap.size p b [] (noughts 32) xs rest w1 h1 (HX.out.still k1) (by omega) (by omega) (by omega)
  have HS := Lib.hid hs
  have K1 := Lib.hid k1
  clear h1 k1 hs
  go_wp2_with fail
  refine HS.out.mono ?_
  rintro e w2 ⟨rfl, b2, rest2, h1, h2, h3, h4⟩
  have hk : Kept NoBlk w w2 := K1.out.step h4 (fun i hi e => by unfold Both at e; omega)
  have hb2 : w.heap.size ≤ b2 := by omega
  have hm2 := HM.out.still hk
  have hx2 := HX.out.still hk
  have hsub := nat_sub (w.heap.size + 1) b2 pn bn xs rest2 ms mr w2 h1 hm2.2 hl (.inl (by omega)) hn
  have hc3 := hm2.ptr
  have HSUB := Lib.hid hsub
  have HK := Lib.hid hk
  have H1 := Lib.hid h1
  have HX2 := Lib.hid hx2
  have h3b : xs.length + rest2.length ≤ 1000000 := by simp [noughts] at h3; omega
  clear h1 h2 h3 h4 hk hm2 hx2 hsub HS K1 hs1
  go_wp2_with fail
  refine HSUB.out.mono ?_
  rintro e w3 ⟨zs, k, rfl, hk1, hz, hv, h1, h2⟩
  have hkb : k = bitN (decide (val xs < val ms)) ∧ (k = 0 ↔ val ms ≤ val xs) := by
    have a1 := val_lt zs h1.2.2.1
    rw [hz] at a1
    have : k = 0 ∨ k = 1 := by omega
    rcases this with rfl | rfl
    · have : ¬ val xs < val ms := by omega
      rw [decide_eq_false this]
      exact ⟨rfl, by omega⟩
    · have : val xs < val ms := by omega
      rw [decide_eq_true this]
      exact ⟨rfl, by omega⟩
  obtain ⟨hk2, hk3⟩ := hkb
  have hnot := not_is k hk1 w3
  have hcb : c = bitN (decide (c = 1)) := by
    have : c = 0 ∨ c = 1 := by omega
    rcases this with rfl | rfl <;> rfl
  have hkn : 1 - k = bitN (!decide (val xs < val ms)) := by rw [hk2]; cases decide (val xs < val ms) <;> rfl
  have hor := bitN_or (!decide (val xs < val ms)) (decide (c = 1))
  rw [← hcb] at hor
  rw [hkn] at hnot
  obtain ⟨d, hd⟩ : ∃ d, bitN (!decide (val xs < val ms) || decide (c = 1)) = d := ⟨_, rfl⟩
  have hdl : d ≤ 1 := by rw [← hd]; exact bitN_le _
  rw [hd] at hor
  have hx3 := HX2.out.away1 H1.out (by omega) h2
  have has := assign_any p b (w.heap.size + 1) b2 d xs rest zs rest2 w3 hdl hx3 h1 hz.symm (.inl (by omega)) (by omega)
  have hkk := HK.out.fresh h2 hb2
  have HN := Lib.hid hnot
  have HAS := Lib.hid has
  have HKK := Lib.hid hkk
  have HV := Lib.hid hv
  have HD := Lib.hid hd
  have HK3 := Lib.hid hk3
  have HZ := Lib.hid hz
  clear h1 h2 hk2 hk3 hnot hkn hcb hd hx3 has hkk hv HSUB HK H1 hz
  go_wp2_with fail
  refine HN.out.mono ?_
  rintro e w' ⟨rfl, rfl⟩
  go_wp2_with fail
  refine HAS.out.mono ?_
  rintro e w4 ⟨rfl, h1, h2⟩
  have hfin : ∃ zs : List Nat, zs.length = xs.length ∧ NatAt w4 p b zs rest ∧ Kept (OneBlk b) w w4 ∧
        ((val xs < val ms ∧ c = 0 ∧ zs = xs) ∨ (¬ (val xs < val ms ∧ c = 0) ∧ ∃ k ≤ 1, (k = 0 ↔ val ms ≤ val xs) ∧ val zs + val ms = val xs + Pw xs.length * k)) := by
    have hkept : Kept (OneBlk b) w w4 := (HKK.out.mono (S' := OneBlk b) (fun _ _ e => e.elim)).trans h2
    by_cases h : val xs < val ms ∧ c = 0
    · have e0 : d = 0 := by rw [← HD.out, decide_eq_true h.1, decide_eq_false (by omega)]; rfl
      rw [e0, sel_zero] at h1
      exact ⟨xs, rfl, h1, hkept, .inl ⟨h.1, h.2, rfl⟩⟩
    · have e1 : d = 1 := by
        rw [← HD.out]
        by_cases h' : val xs < val ms
        · have : c = 1 := by omega
          rw [decide_eq_true h', decide_eq_true this]; rfl
        · rw [decide_eq_false h']; rfl
      rw [e1, sel_one] at h1
      exact ⟨zs, HZ.out, h1, hkept, .inr ⟨h, k, hk1, HK3.out, HV.out⟩⟩
  have FIN := Lib.hid hfin
  clear hfin h1 h2 HAS HN
  go_wp2_with fail
  refine bodyPost_end (results_none rfl _ _ _) rfl ?_
  exact ⟨rfl, FIN.out⟩

/-- What lies below twice the modulus is brought below it. -/
theorem maybeSub_mod (p b q pn bn c : Nat) (xs rest ms mr : List Nat) (od : Bool) (mi : Nat) (rv : Value) (w : World) (hc : c ≤ 1) (hx : NatAt w p b xs rest) (hm : ModAt w q pn bn ms mr od mi rv) (hl : xs.length = ms.length) (hn : ms.length + mr.length ≤ 1000000)
    (ht : val xs + Pw xs.length * c < 2 * val ms) :
    Calls Tryd.prog 114 #[.pointer (some ⟨p, 0, none⟩), .int .u64 c, .pointer (some ⟨q, 0, none⟩)] w fun e w' =>
      e = .returned (.tuple #[]) ∧ ∃ zs : List Nat, zs.length = xs.length ∧ NatAt w' p b zs rest ∧ Kept (OneBlk b) w w' ∧ val zs = (val xs + Pw xs.length * c) % val ms := by
  have hmv := val_lt ms hm.2.2.2.1
  refine (maybeSub_any p b q pn bn c xs rest ms mr od mi rv w hc hx hm hl hn).mono ?_
  rintro e w' ⟨rfl, zs, h1, h2, h3, h4⟩
  refine ⟨rfl, zs, h1, h2, h3, ?_⟩
  have hcc : c = 0 ∨ c = 1 := by omega
  rw [hl] at h4 ht ⊢
  rcases h4 with ⟨a, rfl, rfl⟩ | ⟨a, k, k1, k2, k3⟩
  · rw [Nat.mul_zero, Nat.add_zero, Nat.mod_eq_of_lt a]
  · have hk : k = 0 ∨ k = 1 := by omega
    have hs : val zs + val ms = val xs + Pw ms.length * c := by
      rcases hcc with rfl | rfl <;> rcases hk with rfl | rfl <;> omega
    rw [← hs, Nat.add_mod_right, Nat.mod_eq_of_lt (by omega)]

theorem modAdd_any (p b p' b' q pn bn : Nat) (xs rest ys rest' ms mr : List Nat) (od : Bool) (mi : Nat) (rv : Value) (w : World) (hx : NatAt w p b xs rest) (hy : NatAt w p' b' ys rest') (hm : ModAt w q pn bn ms mr od mi rv) (hb : b ≠ b' ∨ b = b' ∧ xs = ys) (hbn : bn ≠ b)
    (hl : xs.length = ms.length) (hl' : ys.length = ms.length) (hn : ms.length + mr.length ≤ 1000000) (hn' : ys.length + rest'.length ≤ 1000000) (hxm : val xs < val ms) (hym : val ys < val ms) :
    Calls Tryd.prog 96 #[.pointer (some ⟨p, 0, none⟩), .pointer (some ⟨p', 0, none⟩), .pointer (some ⟨q, 0, none⟩)] w fun e w' =>
      e = .returned (.pointer (some ⟨p, 0, none⟩)) ∧ ∃ zs : List Nat, zs.length = xs.length ∧ NatAt w' p b zs rest ∧ Kept (OneBlk b) w w' ∧ val zs = (val xs + val ys) % val ms := by
  have ha := nat_add p b p' b' xs rest ys rest' w hx hy (hl.trans hl'.symm) hb hn'
  have HA := Lib.hid ha
  have HM := Lib.hid hm
  have HX := Lib.hid hx
  have HL := Lib.hid hl
  clear ha hx hy hm hb hl hl'
  go_enter Tryd.func96, Tryd.ntmps96
  go_wp2_with fail
  refine HA.out.mono ?_
  rintro e w1 ⟨zs, c, rfl, hc, hz, hv, h1, k1⟩
  have hm1 := HM.out.away1 HX.out hbn k1
  have hms := maybeSub_mod p b q pn bn c zs rest ms mr od mi rv w1 hc h1 hm1 (hz.trans HL.out) hn (by rw [hz]; omega)
  rw [hz, hv] at hms
  have HMS := Lib.hid hms
  have K1 := Lib.hid k1
  clear hms k1 h1 hm1 hv HA
  go_wp2_with fail
  refine HMS.out.mono ?_
  rintro e w2 ⟨rfl, us, u1, u2, u3, u4⟩
  have hfin : ∃ zs : List Nat, zs.length = xs.length ∧ NatAt w2 p b zs rest ∧ Kept (OneBlk b) w w2 ∧ val zs = (val xs + val ys) % val ms := ⟨us, u1, u2, K1.out.trans u3, u4⟩
  have FIN := Lib.hid hfin
  clear hfin u1 u2 u3 u4 HMS hz
  go_wp2_with fail
  go_ret
  exact ⟨rfl, FIN.out⟩

theorem modSub_any (p b p' b' q pn bn : Nat) (xs rest ys rest' ms mr : List Nat) (od : Bool) (mi : Nat) (rv : Value) (w : World) (hx : NatAt w p b xs rest) (hy : NatAt w p' b' ys rest') (hm : ModAt w q pn bn ms mr od mi rv) (hb : b ≠ b' ∨ b = b' ∧ xs = ys) (hbn : bn ≠ b)
    (hl : xs.length = ms.length) (hl' : ys.length = ms.length) (hn : ms.length + mr.length ≤ 1000000) (hn' : ys.length + rest'.length ≤ 1000000) (hxm : val xs < val ms) (hym : val ys < val ms) :
    Calls Tryd.prog 93 #[.pointer (some ⟨p, 0, none⟩), .pointer (some ⟨p', 0, none⟩), .pointer (some ⟨q, 0, none⟩)] w fun e w' =>
      e = .returned (.pointer (some ⟨p, 0, none⟩)) ∧ ∃ zs : List Nat, zs.length = xs.length ∧ NatAt w' p b zs rest ∧ Kept (OneBlk b) w w' ∧ val zs = (val xs + val ms - val ys) % val ms := by
  have ha := nat_sub p b p' b' xs rest ys rest' w hx hy (hl.trans hl'.symm) hb hn'
  have hmv := val_lt ms hm.2.2.2.1
  have HA := Lib.hid ha
  have HM := Lib.hid hm
  have HX := Lib.hid hx
  have HL := Lib.hid hl
  have HMV := Lib.hid hmv
  have hpl := hx.lt
  have hml := hm.2.lt
  clear ha hx hy hm hb hl hl' hmv
  go_enter Tryd.func93, Tryd.ntmps93
  go_wp2_with fail
  refine HA.out.mono ?_
  rintro e w1 ⟨zs, c, rfl, hc, hz, hv, h1, k1⟩
  have hm1 := HM.out.away1 HX.out hbn k1
  have H1 := Lib.hid h1
  have K1 := Lib.hid k1
  have HM1 := Lib.hid hm1
  have HV := Lib.hid hv
  have HZ := Lib.hid hz
  have hs1 := k1.size
  clear h1 k1 hm1 hv hz HA
  go_wp2_with fail
  refine (newNat_any w1).mono ?_
  rintro e w2 ⟨rfl, h2, k2⟩
  have hs2 := k2.size
  have hz := HZ.out
  have hll := HL.out
  have hst := set_any (w1.heap.size + 1) w1.heap.size p b [] (noughts 32) zs rest w2 h2 (H1.out.still k2) (by omega) (by omega) (by omega)
  have HST := Lib.hid hst
  have K2 := Lib.hid k2
  clear h2 k2 hst hz hll
  go_wp2_with fail
  refine HST.out.mono ?_
  rintro e w3 ⟨rfl, b3, rest3, h3, h4, h5, h6⟩
  have hk : Kept NoBlk w1 w3 := K2.out.step h6 (fun i hi e => by unfold Both at e; omega)
  have hb3 : w1.heap.size ≤ b3 := by omega
  have hm3 := HM1.out.still hk
  have hx3 := H1.out.still hk
  have hadd := nat_add (w1.heap.size + 1) b3 pn bn zs rest3 ms mr w3 h3 hm3.2 (HZ.out.trans HL.out) (.inl (by omega)) hn
  have hc3 := hm3.ptr
  have HADD := Lib.hid hadd
  have HK := Lib.hid hk
  have H3 := Lib.hid h3
  have HX3 := Lib.hid hx3
  have h5b : zs.length + rest3.length ≤ 1000000 := by have := HZ.out; have := HL.out; simp [noughts] at h5; omega
  clear h3 h4 h5 h6 hk hm3 hx3 hadd HST K2 hs2
  go_wp2_with fail
  refine HADD.out.mono ?_
  rintro e w4 ⟨us, d, rfl, hd1, hu, hv2, h4, k4⟩
  have hx4 := HX3.out.away1 H3.out (by omega) k4
  have has := assign_any p b (w1.heap.size + 1) b3 c zs rest us rest3 w4 hc hx4 h4 hu.symm (.inl (by omega)) (by omega)
  have hkk := HK.out.fresh k4 hb3
  have HAS := Lib.hid has
  have HKK := Lib.hid hkk
  have HV2 := Lib.hid hv2
  have HU := Lib.hid hu
  have HW := Lib.hid h4.2.2.1
  clear has hkk hv2 hu h4 hx4 k4 HADD HK H3 HX3
  go_wp2_with fail
  refine HAS.out.mono ?_
  rintro e w5 ⟨rfl, h5, k5⟩
  have hkept : Kept (OneBlk b) w w5 := K1.out.trans ((HKK.out.mono (S' := OneBlk b) (fun _ _ e => e.elim)).trans k5)
  have hfin : ∃ zs : List Nat, zs.length = xs.length ∧ NatAt w5 p b zs rest ∧ Kept (OneBlk b) w w5 ∧ val zs = (val xs + val ms - val ys) % val ms := by
    have hv := HV.out
    have hv2 := HV2.out
    have hmv := HMV.out
    have hz := HZ.out
    have hu := HU.out
    have hl := HL.out
    have hzl := val_lt zs H1.out.2.2.1
    have hul := val_lt us HW.out
    rw [hu, hz, hl] at hul
    rw [hz, hl] at hzl hv2
    rw [hl] at hv
    have hcc : c = 0 ∨ c = 1 := by omega
    have hdd : d = 0 ∨ d = 1 := by omega
    rcases hcc with rfl | rfl
    · rw [sel_zero] at h5
      refine ⟨zs, hz, h5, hkept, ?_⟩
      rw [show val xs + val ms - val ys = val zs + val ms by omega, Nat.add_mod_right, Nat.mod_eq_of_lt (by omega)]
    · rw [sel_one] at h5
      refine ⟨us, hu.trans hz, h5, hkept, ?_⟩
      rw [show val xs + val ms - val ys = val us by rcases hdd with rfl | rfl <;> omega, Nat.mod_eq_of_lt (by rcases hdd with rfl | rfl <;> omega)]
  have FIN := Lib.hid hfin
  clear hfin h5 k5 hkept HAS
  go_wp2_with fail
  go_ret
  exact ⟨rfl, FIN.out⟩

theorem NatAt.setLimb {w : World} {p b : Nat} {xs rest : List Nat} (h : NatAt w p b xs rest) (i x : Nat) (hi : i < xs.length) (hx : x < 18446744073709551616) : NatAt (w.setCell ⟨b, i, none⟩ (.int .u64 (x : Int))) p b (xs.set i x) rest := by
  refine ⟨?_, ?_, h.2.2.1.set i x hx, h.2.2.2⟩
  · rw [List.length_set]; exact h.1.far h.pb _
  · have h1 := h.2.1.set_ i (.int .u64 (x : Int))
    rw [List.setIfInBounds_toArray, List.map_append, List.set_append_left _ _ (by simpa using hi)] at h1
    rw [List.map_append, List.map_set]
    exact h1
theorem val_one (n : Nat) (h : 1 ≤ n) : val ((noughts n).set 0 1) = 1 := by
  obtain ⟨m, rfl⟩ : ∃ m, n = m + 1 := ⟨n - 1, by omega⟩
  unfold noughts
  rw [List.replicate_succ, List.set_cons_zero, val, val_replicate_zero]

theorem subOne_any (p b q pn bn : Nat) (xs rest ms mr : List Nat) (od : Bool) (mi : Nat) (rv : Value) (w : World) (hx : NatAt w p b xs rest) (hm : ModAt w q pn bn ms mr od mi rv) (hbn : bn ≠ b)
    (hl : xs.length = ms.length) (hn : ms.length + mr.length ≤ 1000000) (hn1 : 1 ≤ ms.length) (hxm : val xs < val ms) (hym : 1 < val ms) :
    Calls Tryd.prog 87 #[.pointer (some ⟨p, 0, none⟩), .pointer (some ⟨q, 0, none⟩)] w fun e w' =>
      e = .returned (.pointer (some ⟨p, 0, none⟩)) ∧ ∃ zs : List Nat, zs.length = xs.length ∧ NatAt w' p b zs rest ∧ Kept (OneBlk b) w w' ∧ val zs = (val xs + val ms - 1) % val ms := by
  have HM := Lib.hid hm
  have HX := Lib.hid hx
  have HL := Lib.hid hl
  have hpl := hx.lt
  have hml := hm.2.lt
  clear hx hm hl
  go_enter Tryd.func87, Tryd.ntmps87
  go_wp2_with fail
  refine (newNat_any w).mono ?_
  rintro e w1 ⟨rfl, h1, k1⟩
  have hs1 := k1.size
  have hexp := expandFor_any (w.heap.size + 1) w.heap.size q pn bn [] (noughts 32) ms mr od mi rv w1 h1 (HM.out.still k1) (by simp) (by omega)
  have HE := Lib.hid hexp
  have K1 := Lib.hid k1
  clear h1 k1 hexp
  go_wp2_with fail
  refine HE.out.mono ?_
  rintro e w2 ⟨rfl, b2, rest2, h2, h3, h4, h5⟩
  have hk : Kept NoBlk w w2 := K1.out.step h5 (fun i hi e => by unfold Both at e; omega)
  have hb2 : w.heap.size ≤ b2 := by omega
  simp only [List.nil_append, List.length_nil, Nat.sub_zero] at h2 h4
  have c1 := h2.cell
  have c2 := h2.limb 0 (by rw [noughts_length]; omega)
  have f2 := h2.2.1.frozen 0
  rw [noughts_length] at c1 h4
  have h6 := h2.setLimb 0 1 (by rw [noughts_length]; omega) (by decide)
  have hk6 : Kept NoBlk w (w2.setCell ⟨b2, 0, none⟩ (.int .u64 ((1 : Nat) : Int))) := hk.setNew hb2 _ _
  have hv := val_one ms.length hn1
  have hsub := modSub_any p b (w.heap.size + 1) b2 q pn bn xs rest ((noughts ms.length).set 0 1) rest2 ms mr od mi rv _ (HX.out.still hk6) h6 (HM.out.still hk6) (.inl (by omega)) hbn HL.out (by rw [List.length_set, noughts_length]) hn
    (by rw [List.length_set, noughts_length]; simp [noughts] at h4; omega) hxm (by rw [hv]; exact hym)
  rw [hv] at hsub
  have HSUB := Lib.hid hsub
  have HK6 := Lib.hid hk6
  have hpos : (0 : Int) < (ms.length : Int) := by omega
  clear h2 h3 h4 h5 hk h6 hk6 hv hsub HE K1
  go_wp2_with fail
  refine HSUB.out.mono ?_
  rintro e w3 ⟨rfl, zs, z1, z2, z3, z4⟩
  have hfin : ∃ zs : List Nat, zs.length = xs.length ∧ NatAt w3 p b zs rest ∧ Kept (OneBlk b) w w3 ∧ val zs = (val xs + val ms - 1) % val ms := ⟨zs, z1, z2, (HK6.out.mono (S' := OneBlk b) (fun _ _ e => e.elim)).trans z3, z4⟩
  have FIN := Lib.hid hfin
  clear hfin z1 z2 z3 z4 HSUB
  go_wp2_with fail
  go_ret
  exact ⟨rfl, FIN.out⟩

end Go.Proofs.YtmheoenieaemmaaDoor
