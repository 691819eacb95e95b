/-
  bigmod.Nat.shiftIn.
-/
import Derived.Test.YtmheoenieaemmaaSetBytes
namespace Go.Proofs.Ytmheoenieaemmaa
open Go.RowKit

/-- One doubling, reduced: the one or the other of two numbers. -/
theorem shift_step (m R cur bit x' d' c bo : Nat) (hc : c ≤ 1) (hbo : bo ≤ 1) (hbit : bit ≤ 1) (hcur : cur < m) (hm : m < R) (hd : d' < R) (h1 : x' + R * c = 2 * cur + bit) (h2 : d' + m = x' + R * bo) :
    (if (1 - bo = 1 ∨ c = 1) then d' else x') = (2 * cur + bit) % m := by
  have hc' : c = 0 ∨ c = 1 := by omega
  have hb' : bo = 0 ∨ bo = 1 := by omega
  rcases hc' with rfl | rfl <;> rcases hb' with rfl | rfl
  · rw [if_pos (by omega), show 2 * cur + bit = d' + m by omega, Nat.add_mod_right, Nat.mod_eq_of_lt (by omega)]
  · rw [if_neg (by omega), show 2 * cur + bit = x' by omega, Nat.mod_eq_of_lt (by omega)]
  · omega
  · rw [if_pos (by omega), show 2 * cur + bit = d' + m by omega, Nat.add_mod_right, Nat.mod_eq_of_lt (by omega)]

theorem shift_val (X y m i : Nat) (hi : i < 64) : (2 * ((X * 2 ^ (64 - (i + 1)) + y / 2 ^ (i + 1)) % m) + y / 2 ^ i % 2) % m = (X * 2 ^ (64 - i) + y / 2 ^ i) % m := by
  have e : y / 2 ^ i = 2 * (y / 2 ^ (i + 1)) + y / 2 ^ i % 2 := shr_step y i
  have e2 : 2 ^ (64 - i) = 2 * 2 ^ (64 - (i + 1)) := by rw [← Nat.pow_succ']; congr 1; omega
  generalize y / 2 ^ i % 2 = b at *
  rw [Nat.add_mod, Nat.mul_mod, Nat.mod_mod, ← Nat.mul_mod, ← Nat.add_mod, Nat.mul_add, e2, e]
  congr 1
  rw [Nat.mul_left_comm]
  omega

theorem or_bits (c bo : Nat) (hc : c ≤ 1) (hb : bo ≤ 1) : bits .or .u64 ((1 - bo : Nat) : Int) (c : Int) = ((if (1 - bo = 1 ∨ c = 1) then 1 else 0 : Nat) : Int) := by
  have hc' : c = 0 ∨ c = 1 := by omega
  have hb' : bo = 0 ∨ bo = 1 := by omega
  rcases hc' with rfl | rfl <;> rcases hb' with rfl | rfl <;> decide

/-- The blocks of two rows. -/
def Two (a b : Nat) : Nat → Prop := fun k => k = a ∨ k = b

set_option maxHeartbeats 2000000 in
set_option maxRecDepth 4000 in
theorem shiftIn_any (p b q pn bn n y : Nat) (xs rest ms mr : List Nat) (od : Bool) (mi : Nat) (rv : Value) (w : World) (hx : NatAt w p b xs rest) (hm : ModAt w q pn bn ms mr od mi rv) (hbn : bn ≠ b)
    (hl : xs.length = n) (hn : ms.length = n) (hnr : n + rest.length ≤ 1000000) (hnm : n + mr.length ≤ 1000000) (hy : y < 18446744073709551616) (hxm : val xs < val ms) :
    Calls Try.prog 89 #[.pointer (some ⟨p, 0, none⟩), .int .u64 y, .pointer (some ⟨q, 0, none⟩)] w fun e w' =>
      e = .returned (.pointer (some ⟨p, 0, none⟩)) ∧ ∃ zs : List Nat, zs.length = n ∧ NatAt w' p b zs rest ∧ Kept (OneBlk b) w w' ∧ val zs = (val xs * 18446744073709551616 + y) % val ms := by
  have hpl := hx.lt
  have hml := hm.2.lt
  have HX := Lib.hid hx
  have HM := Lib.hid hm
  have HN := Lib.hid hn
  have HL := Lib.hid hl
  have HY := Lib.hid hy
  have HXM := Lib.hid hxm
  clear hx hm hn hl hy hxm
  go_enter Try.func89, Try.ntmps89
  go_wp2_with fail
  refine (newNat_any w).mono ?_
  rintro e w1 ⟨rfl, h1, k1⟩
  have hr := resetFor_any (w.heap.size + 1) w.heap.size q pn bn [] (noughts 32) ms mr od mi rv w1 h1 (HM.out.still k1) (by have := HN.out; omega)
  have HR := Lib.hid hr
  have K1 := Lib.hid k1
  have hs1 := k1.size
  clear h1 k1 hr
  go_wp2_with fail
  refine HR.out.mono ?_
  rintro e w2 ⟨rfl, bd, restd, h2, h3, h4, h5⟩
  rw [HN.out] at h2 h3 h4
  rw [noughts_length] at h3 h4
  have hk : Kept NoBlk w w2 := K1.out.step h5 (fun i hi e => by unfold Both at e; omega)
  have hbd : w.heap.size ≤ bd := by omega
  have hrd : n + restd.length ≤ 1000000 := by simp [noughts] at h4; omega
  have hx2 := HX.out.still hk
  have hm2 := HM.out.still hk
  have c1 := hx2.cell
  rw [HL.out] at c1
  have c2 := h2.cell
  rw [noughts_length] at c2
  have c3 := hm2.2.cell
  rw [HN.out] at c3
  have c4 := hm2.ptr
  have j1 : (n : Int) ≤ (n : Int) + (rest.length : Int) := by omega
  have j2 : (n : Int) ≤ (n : Int) + (restd.length : Int) := by omega
  have j3 : (n : Int) ≤ (n : Int) + (mr.length : Int) := by omega
  have H2 := Lib.hid h2
  have HK := Lib.hid hk
  have HX2 := Lib.hid hx2
  clear h2 h3 h4 h5 hk hx2 hm2 HR K1
  go_wp2_with fail
  clear c1 c2 c3 c4
  go_loopw [12, 13] (fun sv iv wr => ∃ (i s : Nat) (xs' ds : List Nat), i ≤ 64 ∧ s ≤ 1 ∧ sv = .int .u64 (s : Int) ∧ iv = .int .i64 ((i : Int) - 1) ∧ xs'.length = n ∧ ds.length = n ∧ NatAt wr p b xs' rest ∧ NatAt wr (w.heap.size + 1) bd ds restd ∧
    Kept (OneBlk b) w wr ∧ val (sel s ds xs') = (val xs * 2 ^ (64 - i) + y / 2 ^ i) % val ms) (fun _ iv _ => (intOf iv + 1).toNat)
  case atStart => exact ⟨64, 0, xs, noughts n, by omega, by omega, rfl, rfl, HL.out, noughts_length n, HX2.out, H2.out, HK.out.mono (fun _ _ e => e.elim), by rw [sel_zero, Nat.sub_self, Nat.pow_zero, Nat.mul_one, Nat.div_eq_of_lt HY.out, Nat.add_zero, Nat.mod_eq_of_lt HXM.out]⟩
  case round =>
    obtain ⟨i, s, xs', ds, hi, hs, rfl, rfl, hxl, hdl, hxs, hds, hK, hv⟩ := hrel
    clear H2 HX2
    rcases Nat.eq_zero_or_pos i with h0 | h0
    · subst h0
      rw [Nat.sub_zero, Nat.pow_zero, Nat.div_one, show (2 : Nat) ^ 64 = 18446744073709551616 from rfl] at hv
      have has := assign_any p b (w.heap.size + 1) bd s xs' rest ds restd wr hs hxs hds (by omega) (.inl (by omega)) (by omega)
      have HAS := Lib.hid has
      have HV := Lib.hid hv
      have HK2 := Lib.hid hK
      have HXL := Lib.hid hxl
      have HDL := Lib.hid hdl
      have hneg : ¬ (0 : Int) ≤ ((0 : Nat) : Int) - 1 := by omega
      clear has hv hK hxl hdl hxs hds
      go_wp2_with fail
      refine HAS.out.mono ?_
      rintro e w3 ⟨rfl, h6, k6⟩
      have hfin : ∃ zs : List Nat, zs.length = n ∧ NatAt w3 p b zs rest ∧ Kept (OneBlk b) w w3 ∧ val zs = (val xs * 18446744073709551616 + y) % val ms :=
        ⟨_, by unfold sel; split; exact HDL.out; exact HXL.out, h6, HK2.out.trans k6, HV.out⟩
      have FIN := Lib.hid hfin
      clear h6 k6 hfin HAS
      go_wp2_with fail
      go_ret
      exact ⟨rfl, FIN.out⟩
    · rename World => wo
      obtain ⟨j, rfl⟩ : ∃ j, i = j + 1 := ⟨i - 1, by omega⟩
      have ej : ((j + 1 : Nat) : Int) - 1 = (j : Int) := by omega
      obtain ⟨t, ht⟩ : ∃ t, y / 2 ^ j = t := ⟨_, rfl⟩
      have hty : t < 18446744073709551616 := by rw [← ht]; exact Nat.lt_of_le_of_lt (Nat.div_le_self _ _) HY.out
      have hsh : (y : Int) / 2 ^ j = (t : Int) := by
        rw [← ht, Int.natCast_ediv, Int.natCast_pow]; rfl
      have hand : bits .and .u64 (t : Int) 1 = ((t % 2 : Nat) : Int) := by
        have := bits_and_u64_nat t 1 hty (by omega)
        rw [Nat.and_one_is_mod] at this
        exact this
      have hmk := ctMask_is s hs wo
      have HMK := Lib.hid hmk
      have HT := Lib.hid ht
      have HV := Lib.hid hv
      have HK2 := Lib.hid hK
      have HXS := Lib.hid hxs
      have HDS := Lib.hid hds
      have HXL := Lib.hid hxl
      have HDL := Lib.hid hdl
      clear hmk ht hv hK hxs hds hxl hdl hty
      rw [ej]
      go_wp2_with fail
      refine HMK.out.mono ?_
      rintro e w' ⟨rfl, rfl⟩
      clear HMK hsh hand
      go_wp2_with fail
      obtain ⟨L, hL⟩ : ∃ L, sel s ds xs' = L := ⟨_, rfl⟩
      have hLl : L.length = n := by rw [← hL]; unfold sel; split; exact HDL.out; exact HXL.out
      have hLw : Wd L := by rw [← hL]; unfold sel; split; exact HDS.out.2.2.1; exact HXS.out.2.2.1
      have HLL := Lib.hid hL
      have HLN := Lib.hid hLl
      have HLW := Lib.hid hLw
      have hbbd : b ≠ bd := by omega
      have hbnd : bn ≠ bd := by omega
      clear hL hLl hLw
      go_loopw [14, 15, 17] (fun cv bv kv wr => ∃ (k c bo : Nat) (zs us : List Nat), k ≤ n ∧ cv = .int .u64 (c : Int) ∧ bv = .int .u64 (bo : Int) ∧ kv = .int .i64 (k : Int) ∧ c ≤ 1 ∧ bo ≤ 1 ∧ zs.length = k ∧ us.length = k ∧ Wd zs ∧ Wd us ∧
        val zs + Pw k * c = 2 * val (L.take k) + t % 2 ∧ val us + val (ms.take k) = val zs + Pw k * bo ∧ Mid wr b zs (xs' ++ rest) k ∧ Mid wr bd us (ds ++ restd) k ∧ Kept (Two b bd) wo wr) (fun _ _ kv _ => n - (intOf kv).toNat)
      case atStart => exact ⟨0, t % 2, 0, [], [], Nat.zero_le _, by first | rfl | go_num, rfl, rfl, by omega, by omega, rfl, rfl, Wd.nil, Wd.nil, by simp [val, Pw_zero], by simp [val], HXS.out.mid, HDS.out.mid, Kept.refl _ _⟩
      case round =>
        obtain ⟨k, c, bo, zs, us, hk, rfl, rfl, rfl, hc, hbo, hzl, hul, hzw, huw, hv1, hv2, hm1, hm2, hKi⟩ := hrel
        by_cases hlt : k < n
        · have hkx : k < xs'.length := by have := HXL.out; omega
          have hkd : k < ds.length := by have := HDL.out; omega
          have hkm : k < ms.length := by have := HN.out; omega
          have hkL : k < L.length := by have := HLN.out; omega
          have cx := hm1.cell hzl (by simp; omega)
          rw [List.getElem_append_left hkx] at cx
          have cd := hm2.cell hul (by simp; omega)
          rw [List.getElem_append_left hkd] at cd
          have hmw : ∀ i h, ms[i]'h < 18446744073709551616 := fun i h => HM.out.2.2.2.1.get i h
          have cm : wr.cell? ⟨bn, k, none⟩ = some (.int .u64 (ms[k] : Int)) := by
            have h1 := (HM.out.2.kept HK2.out (HM.out.2.cross HX.out) hbn).limb k hkm
            exact (hKi.cell (p := ⟨bn, k, none⟩) (Nat.lt_of_lt_of_le hml.2 HK2.out.size) (fun e => by rcases e with e | e; exact hbn e; exact hbnd e)).trans h1
          have wxk := HXS.out.2.2.1.get k hkx
          have wdk := HDS.out.2.2.1.get k hkd
          obtain ⟨m1, m2, m3⟩ := mask_step s xs'[k] ds[k] hs wxk wdk
          have hLk : (if s = 1 then ds[k] else xs'[k]) = L[k] := by
            have h := HLL.out
            subst h
            unfold sel
            split <;> rfl
          rw [hLk] at m3
          obtain ⟨mm, hmm⟩ : ∃ mm, ms[k] = mm := ⟨_, rfl⟩
          obtain ⟨x, hx⟩ : ∃ x, xs'[k] = x := ⟨_, rfl⟩
          obtain ⟨dd, hdd⟩ : ∃ dd, ds[k] = dd := ⟨_, rfl⟩
          obtain ⟨l, hl⟩ : ∃ l, L[k] = l := ⟨_, rfl⟩
          rw [hx, hdd] at m1 m2
          rw [hx, hdd, hl] at m3
          rw [hx] at cx
          rw [hdd] at cd
          rw [hmm] at cm
          obtain ⟨r, hr⟩ : ∃ r : Nat, x ^^^ dd = r := ⟨_, rfl⟩
          rw [hr] at m1 m2 m3
          obtain ⟨q', hq⟩ : ∃ q' : Nat, (if s = 1 then r else 0) = q' := ⟨_, rfl⟩
          rw [hq] at m2 m3
          have wl : l < 18446744073709551616 := by rw [← hl]; exact HLW.out.get k hkL
          have wm : mm < 18446744073709551616 := by rw [← hmm]; exact hmw k hkm
          obtain ⟨z, c', hz, hzlt⟩ : ∃ z c', l + l + c = z + 18446744073709551616 * c' ∧ z < 18446744073709551616 := ⟨(l + l + c) % 18446744073709551616, (l + l + c) / 18446744073709551616, by omega, by omega⟩
          have hc'1 : c' ≤ 1 := by omega
          obtain ⟨u, bo', hu, hult⟩ : ∃ u bo', z + 18446744073709551616 * bo' = u + mm + bo ∧ u < 18446744073709551616 := ⟨(z + 18446744073709551616 + 18446744073709551616 - mm - bo) % 18446744073709551616, if z < mm + bo then 1 else 0, by split <;> omega, by omega⟩
          have hbo'1 : bo' ≤ 1 := by omega
          have HADD := Lib.hid (bitsAdd_is l l c z c' hc hzlt hz)
          have HSUB := Lib.hid (bitsSub_is z mm bo u bo' hbo hult hzlt wm hu)
          have hn1 : val (zs ++ [z]) + Pw (k + 1) * c' = 2 * val (L.take (k + 1)) + t % 2 := by
            rw [val_snoc, val_take_succ L k hkL, hl, hzl, Pw_succ, Nat.mul_add]
            have e1 : Pw k * z + Pw k * (18446744073709551616 * c') = Pw k * l + Pw k * l + Pw k * c := by rw [← Nat.mul_add, ← Nat.mul_add, ← Nat.mul_add, hz]
            rw [Nat.mul_comm 18446744073709551616 (Pw k), Nat.mul_assoc (Pw k)]
            omega
          have hn2 : val (us ++ [u]) + val (ms.take (k + 1)) = val (zs ++ [z]) + Pw (k + 1) * bo' := by
            rw [val_snoc, val_snoc, val_take_succ ms k hkm, hmm, hzl, hul, Pw_succ]
            have e1 : Pw k * z + Pw k * (18446744073709551616 * bo') = Pw k * u + Pw k * mm + Pw k * bo := by rw [← Nat.mul_add, ← Nat.mul_add, ← Nat.mul_add, hu]
            rw [Nat.mul_comm 18446744073709551616 (Pw k), Nat.mul_assoc (Pw k)]
            omega
          have HN1 := Lib.hid hn1
          have HN2 := Lib.hid hn2
          have HZL := Lib.hid hzl
          have HUL := Lib.hid hul
          have HZW := Lib.hid (hzw.snoc hzlt)
          have HUW := Lib.hid (huw.snoc hult)
          have HM1 := Lib.hid hm1
          have HM2 := Lib.hid hm2
          have HKI := Lib.hid hKi
          have fx := hm1.frozen k
          have hkxs : k < (xs' ++ rest).length := by simp; omega
          have hkds : k < (ds ++ restd).length := by simp; omega
          clear hn1 hn2 hzl hul hzw huw hm1 hm2 hKi hv1 hv2 hLk hmm hx hdd hl hr hq hz hu
          go_wp2_with fail
          go_quiet (fail)
          go_wp2_with fail
          refine (HADD.out _).mono ?_
          rintro e w' ⟨rfl, rfl⟩
          obtain ⟨W5, hW5⟩ : ∃ W5, (wr.drewN nq).setCell ⟨b, k, none⟩ (.int .u64 (z : Int)) = W5 := ⟨_, rfl⟩
          have g1 : Mid W5 b (zs ++ [z]) (xs' ++ rest) (k + 1) := (HM1.out.drewN nq).set HZL.out hkxs z hW5.symm
          have k15 : Kept (OneBlk b) (wr.drewN nq) W5 := by rw [← hW5]; exact (Kept.refl _ _).setOne _ _
          have g2 : Mid W5 bd us (ds ++ restd) k := by
            have := HM2.out.drewN nq
            exact Blk.kept this k15 (fun e => hbbd e.symm)
          have cz : W5.cell? ⟨b, k, none⟩ = some (.int .u64 (z : Int)) := by
            refine Blk.cellIs g1 ?_
            rw [List.getElem?_toArray, List.getElem?_map, List.getElem?_append_left (by simp [HZL.out]), List.getElem?_append_right (by rw [HZL.out]; omega), HZL.out, Nat.sub_self]
            rfl
          have cd5 : W5.cell? ⟨bd, k, none⟩ = some (.int .u64 (dd : Int)) := (k15.cell (p := ⟨bd, k, none⟩) (World.block_lt_of_cell? wr ⟨bd, k, none⟩ cd) (fun e => hbbd e.symm)).trans cd
          have cm5 : W5.cell? ⟨bn, k, none⟩ = some (.int .u64 (mm : Int)) := (k15.cell (p := ⟨bn, k, none⟩) (World.block_lt_of_cell? wr ⟨bn, k, none⟩ cm) hbn).trans cm
          have fd5 := Blk.frozen g2 k
          have HK5 : Hid (Kept (Two b bd) wo W5) := Lib.hid ((HKI.out.drewN nq).trans (k15.mono (fun _ _ e => .inl e)))
          have G1 := Lib.hid g1
          have G2 := Lib.hid g2
          clear g1 g2 k15 HKI HM1 HM2 m1 m2 m3 cd cm
          go_wp2_with fail
          clear cx fx
          go_region_with (go_at_call 79; refine (HSUB.out _).mono ?_; rintro e w' ⟨rfl, rfl⟩)
          all_goals go_wp2_with fail
          all_goals
            go_roundw
            case rel => exact ⟨k + 1, c', bo', zs ++ [z], us ++ [u], by omega, rfl, rfl, by go_num, hc'1, hbo'1, by rw [List.length_append, HZL.out]; rfl, by rw [List.length_append, HUL.out]; rfl, HZW.out, HUW.out, HN1.out, HN2.out, Mid.drew (Blk.far G1.out (p := ⟨bd, k, none⟩) hbbd _), Mid.drew (Mid.set G2.out HUL.out hkds u rfl), (HK5.out.setCell ⟨bd, k, none⟩ _ (fun _ => .inr rfl)).drew⟩
            case measure => first | (simp [intOf]; done) | (simp [intOf]; omega)
        · obtain rfl : k = n := by omega
          rw [List.take_of_length_le (by have := HLN.out; omega)] at hv1
          rw [List.take_of_length_le (by have := HN.out; omega)] at hv2
          have hcur : val L = (val xs * 2 ^ (64 - (j + 1)) + y / 2 ^ (j + 1)) % val ms := by rw [← HLL.out]; exact HV.out
          have hmpos : 0 < val ms := by have := HXM.out; omega
          have hstep := shift_step (val ms) (Pw k) (val L) (t % 2) (val zs) (val us) c bo hc hbo (by omega) (by rw [hcur]; exact Nat.mod_lt _ hmpos) (by have := val_lt ms HM.out.2.2.2.1; rw [HN.out] at this; exact this) (by have := val_lt us huw; rw [hul] at this; exact this) hv1 hv2
          rw [hcur, ← HT.out, shift_val _ _ _ j (by omega)] at hstep
          have hor := or_bits c bo hc hbo
          have hnot := not_is bo hbo wr
          have hx3 : NatAt wr p b zs rest := by
            refine ⟨?_, ?_, hzw, HXS.out.2.2.2⟩
            · have := HXS.out.1.kept hKi (fun e => by rcases e with e | e; exact HXS.out.pb e; exact HXS.out.cross HDS.out e)
              rw [hzl]; rw [HXL.out] at this; exact this
            · have := hm1
              unfold Mid at this
              rw [← HXL.out, List.drop_left] at this
              exact this
          have hd3 : NatAt wr (w.heap.size + 1) bd us restd := by
            refine ⟨?_, ?_, huw, HDS.out.2.2.2⟩
            · have := HDS.out.1.kept hKi (fun e => by rcases e with e | e; exact HDS.out.cross HXS.out e; exact HDS.out.pb e)
              rw [hul]; rw [HDL.out] at this; exact this
            · have := hm2
              unfold Mid at this
              rw [← HDL.out, List.drop_left] at this
              exact this
          obtain ⟨s', hs'⟩ : ∃ s' : Nat, (if (1 - bo = 1 ∨ c = 1) then 1 else 0) = s' := ⟨_, rfl⟩
          rw [hs'] at hor
          have hs'1 : s' ≤ 1 := by rw [← hs']; split <;> omega
          have hsel : val (sel s' us zs) = (val xs * 2 ^ (64 - j) + y / 2 ^ j) % val ms := by
            rw [← hstep, ← hs']
            unfold sel
            split <;> rfl
          have hkk : Kept (OneBlk b) w wr := HK2.out.step hKi (fun i hi e => by rcases e with e | e; exact e; (unfold OneBlk; omega))
          have HNOT := Lib.hid hnot
          have HSEL := Lib.hid hsel
          have HX3 := Lib.hid hx3
          have HD3 := Lib.hid hd3
          have HKK := Lib.hid hkk
          have HZL := Lib.hid hzl
          have HUL := Lib.hid hul
          clear hv1 hv2 hcur hstep hnot hx3 hd3 hs' hsel hkk hm1 hm2 hKi hzl hul hzw huw
          go_wp2_with fail
          refine HNOT.out.mono ?_
          rintro e w' ⟨rfl, rfl⟩
          go_wp2_with fail
          go_roundw
          case rel => exact ⟨j, s', zs, us, by omega, hs'1, rfl, rfl, HZL.out, HUL.out, HX3.out, HD3.out, HKK.out, HSEL.out⟩
          case measure => first | (simp [intOf]; done) | (simp [intOf]; omega)

end Go.Proofs.Ytmheoenieaemmaa
