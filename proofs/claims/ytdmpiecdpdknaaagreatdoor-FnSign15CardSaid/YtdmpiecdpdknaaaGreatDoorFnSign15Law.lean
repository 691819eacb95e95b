/-
  Proved: FnSign15 answers true for all inputs and changes nothing; the listed error variables hold what the program lays (the card ties them).
-/
import Derived.Test.YtdmpiecdpdknaaaGreatDoorCards
import Derived.Test.YtdmpiecdpdknaaaGreatDoorTie
import Derived.Test.YtdmpiecdpdknaaaGreatDoorSign15
import Derived.Test.YtdmpiecdpdknaaaGreatDoorGlobS
import Derived.ChangeVars
import Derived.RowKitTokens
import Derived.ProofKit
import Derived.OpenShut
import Derived.ShutString
import Derived.ChangeOld
import Derived.Lib.SmallJoins
import Derived.Deep.DeepHandedRow
import Derived.Lib.LaidTab
namespace Go.Proofs.YtdmpiecdpdknaaaGreatDoor.fnSign15
open Go.ChangeShapes Go.WideShapes Go.ChangeAt Go.RowKit
open Go.ChangeMaps (open_string shut_string)
set_option linter.unusedVariables false

theorem own : ownKnob Tryz.prog.godebug = none := by kernel_rfl
theorem laidOut : laidOutB Tryz.prog = true := by kernel_rfl


section
variable {H : Type} {enc : TypeId × Value → H} {P : Program} {w : World} {spare : Nat → Bool}
theorem varsCons {n : String} {ns : List String} {gs : List (DataW H)} {ps : List MemPlace} (h : DataW.TrodVars enc P w spare (n :: ns) gs ps) :
    ∃ g t cs f d p ds q, gs = d :: ds ∧ P.globalNamed n = some g ∧ (P.globals[g]?).map (·.type) = some t ∧ w.var? P n = some cs ∧ DataW.trod enc P w 0 spare true f t cs.toList = some (d, p) ∧ DataW.TrodVars enc P w spare ns ds q ∧ ps = MemPlace.row ⟨g, 0, none⟩ cs.size ++ p ++ q := by
  cases gs with
  | nil => simp [DataW.TrodVars] at h
  | cons d ds =>
    obtain ⟨g, t, cs, f, p, q, h1, h2, h3, h4, hs, e⟩ := h
    exact ⟨g, t, cs, f, d, p, ds, q, rfl, h1, h2, h3, h4, hs, e⟩
theorem varsCons_mk {n : String} {ns : List String} {g : Nat} {t : TypeId} {cs : Array Value} {fuel : Nat} {d : DataW H} {p : List MemPlace} {ds : List (DataW H)} {q : List MemPlace} (h1 : P.globalNamed n = some g) (h2 : (P.globals[g]?).map (·.type) = some t) (h3 : w.var? P n = some cs)
    (h4 : DataW.trod enc P w 0 spare true fuel t cs.toList = some (d, p)) (hs : DataW.TrodVars enc P w spare ns ds q) : DataW.TrodVars enc P w spare (n :: ns) (d :: ds) (MemPlace.row ⟨g, 0, none⟩ cs.size ++ p ++ q) :=
  ⟨g, t, cs, fuel, p, q, h1, h2, h3, h4, hs, rfl⟩
end

set_option maxRecDepth 100000 in
/-- What the walk gives, for every argument and every world in which the listed variables hold what is listed. -/
theorem contract (H : Type) (enc : TypeId × Value → H) (W : World) (base : Nat) (args : Array Value) (ds gs : List (DataW H)) (before : List MemPlace)
    (hval0 : ∀ (j : Nat) t v, Tryz.f3.params[j]? = some t → args[j]? = some v → Value.okWide Tryz.prog W .any base t v)
    (hW : DataW.Whole enc Tryz.prog Tryz.f3.params.toList Rows.fnSign15Spec.vars false W args.toList ds gs before) (hL : laidMetH Tryz.prog Rows.fnSign15Row.laid W) :
    Calls Tryz.prog 3 args W fun e W' => ∃ v, e = .returned v ∧ Rows.fnSign15Spec.post enc Tryz.prog Tryz.f3 false true false false W args v W' := by
  have hval : ∀ (j : Nat) t v, Tryz.f3.params[j]? = some t → args[j]? = some v → Value.okWide Tryz.prog W .any base t v := hval0
  have hW' := hW
  obtain ⟨p, q, hA0, hV, rfl, hfz, hnd⟩ := hW
  have hA : DataW.TrodAll enc Tryz.prog W 0 (fun _ => true) true Tryz.f3.params.toList args.toList ds p := hA0
  rw [Tryz.params3] at hA hval
  obtain ⟨v0, vs0, d0, ds0, p0, q0, hargs, rfl, rfl, h0, r0⟩ := trodAll_cons hA
  obtain ⟨v1, vs1, d1, ds1, p1, q1, rfl, rfl, rfl, h1, r1⟩ := trodAll_cons r0
  obtain ⟨v2, vs2, d2, ds2, p2, q2, rfl, rfl, rfl, h2, r2⟩ := trodAll_cons r1
  obtain ⟨v3, vs3, d3, ds3, p3, q3, rfl, rfl, rfl, h3, r3⟩ := trodAll_cons r2
  obtain ⟨v4, vs4, d4, ds4, p4, q4, rfl, rfl, rfl, h4, r4⟩ := trodAll_cons r3
  obtain ⟨rfl, rfl, rfl⟩ := trodAll_nil r4
  obtain rfl : args = #[v0, v1, v2, v3, v4] := by cases args; simp_all
  have hVV : DataW.TrodVars enc Tryz.prog W (fun _ => true) ["loop.example/pub-g03132/pub/rsa.ErrMessageTooLong", "loop.example/pub-g03132/pub/rsa.ErrDecryption", "loop.example/pub-g03132/pub/rsa.ErrVerification"] gs q := hV
  obtain ⟨gv0, tv0, csv0, fv0, dv0, pv0, dr0, qr0, rfl, hgv0, htv0, hvarv0, hvtv0, hr0, rfl⟩ := varsCons hVV
  obtain rfl : tv0 = 49 := Option.some.inj (htv0.symm.trans (by rw [← Option.some.inj ((show _ = some 1 by kernel_rfl).symm.trans hgv0)]; kernel_rfl))
  obtain ⟨xv0, rfl, hxv0, rfl, rfl, hcv0⟩ := token_of hgv0 Tryz.underlying49 hvarv0 hvtv0
  obtain ⟨gv1, tv1, csv1, fv1, dv1, pv1, dr1, qr1, rfl, hgv1, htv1, hvarv1, hvtv1, hr1, rfl⟩ := varsCons hr0
  obtain rfl : tv1 = 49 := Option.some.inj (htv1.symm.trans (by rw [← Option.some.inj ((show _ = some 2 by kernel_rfl).symm.trans hgv1)]; kernel_rfl))
  obtain ⟨xv1, rfl, hxv1, rfl, rfl, hcv1⟩ := token_of hgv1 Tryz.underlying49 hvarv1 hvtv1
  obtain ⟨gv2, tv2, csv2, fv2, dv2, pv2, dr2, qr2, rfl, hgv2, htv2, hvarv2, hvtv2, hr2, rfl⟩ := varsCons hr1
  obtain rfl : tv2 = 49 := Option.some.inj (htv2.symm.trans (by rw [← Option.some.inj ((show _ = some 0 by kernel_rfl).symm.trans hgv2)]; kernel_rfl))
  obtain ⟨xv2, rfl, hxv2, rfl, rfl, hcv2⟩ := token_of hgv2 Tryz.underlying49 hvarv2 hvtv2
  obtain ⟨rfl, rfl⟩ := trodVars_none hr2
  obtain ⟨a0, rfl, rfl, rfl, w0⟩ := open_int Tryz.underlying5 (hval 0 5 v0 rfl rfl) h0
  have bd0 := bounds_u8 w0
  obtain ⟨a1, rfl, rfl, rfl, w1⟩ := open_int Tryz.underlying5 (hval 1 5 v1 rfl rfl) h1
  have bd1 := bounds_u8 w1
  obtain ⟨A2, len2, cap2, rfl⟩ := okWide_slice Tryz.underlying22 (hval 2 22 v2 rfl rfl)
  have k2 := h2
  have lt2 : ∀ x ∈ p2, x.block < W.heap.size := by obtain ⟨m, hm⟩ := k2; exact DataW.trod_lt m _ _ _ hm
  obtain ⟨z2, w2⟩ : ∃ zs, IsRow .u8 W A2 len2 cap2 zs := by
    obtain ⟨fuel, hf⟩ := h2
    rcases open_ints Tryz.underlying22 Tryz.underlying5 (by kernel_rfl) hf with ⟨hcs, _⟩ | ⟨x, l, c, zs, hcs, _, hl, hm, hz, _, hcell, hwz⟩
    · simp [Value.cells] at hcs
      obtain ⟨rfl, rfl, rfl⟩ := hcs
      exact ⟨[], .inl ⟨rfl, rfl, rfl, rfl⟩⟩
    · simp [Value.cells] at hcs
      obtain ⟨rfl, rfl, rfl⟩ := hcs
      exact ⟨zs, .inr ⟨_, rfl, hl, hm, by simpa using hz, hcell, hwz⟩⟩
  obtain ⟨xs2, rfl, bx2, lc2, cm2⟩ := w2.bytes
  obtain ⟨a3, rfl, rfl, rfl, w3⟩ := open_int Tryz.underlying23 (hval 3 23 v3 rfl rfl) h3
  have bd3 := bounds_u16 w3
  obtain ⟨a4, rfl, rfl, rfl, w4⟩ := open_int Tryz.underlying5 (hval 4 5 v4 rfl rfl) h4
  have bd4 := bounds_u8 w4
  clear hA0 hval0
  obtain ⟨ea, ev, hGE, hVE⟩ := signErrs_of_laid hL
  refine (fnSign15_walk a0 a1 A2 cap2 xs2 a3 a4 W bd0.1 bd0.2 bd1.1 bd1.2 bx2 lc2 cm2 bd3.1 bd3.2 bd4.1 bd4.2 ea hGE ev hVE).mono fun e W' ⟨he, kept⟩ => ?_
  have bel := kept.below
  subst he
  exact ⟨_, rfl, _, _, _, [], _, _, hW', trodAll_mk1 (shut_bool Tryz.underlying4 _), (trodAll_cons_mk (shut_int Tryz.underlying5 w0) (trodAll_cons_mk (shut_int Tryz.underlying5 w1) (trodAll_cons_mk (Below.trod laidOut (by kernel_rfl) (of_decide_eq_true (by kernel_rfl)) k2 bel lt2) (trodAll_cons_mk (shut_int Tryz.underlying23 w3) (trodAll_cons_mk (shut_int Tryz.underlying5 w4) trodAll_mk0))))), (varsCons_mk (fuel := 1) (d := tok enc xv0) (p := []) hgv0 htv0 (Joins.var_stays hgv0 hvarv0 bel (Nat.le_refl _)) (trod_held Tryz.underlying49 hxv0 0) (varsCons_mk (fuel := 1) (d := tok enc xv1) (p := []) hgv1 htv1 (Joins.var_stays hgv1 hvarv1 bel (Nat.le_refl _)) (trod_held Tryz.underlying49 hxv1 0) (varsCons_mk (fuel := 1) (d := tok enc xv2) (p := []) hgv2 htv2 (Joins.var_stays hgv2 hvarv2 bel (Nat.le_refl _)) (trod_held Tryz.underlying49 hxv2 0) (rfl)))), bel.frame _, fun h => by cases h⟩

/-- A world for the witness: the settled one, the listed variables laid. -/
noncomputable def low : Nat := (World.holding Tryz.prog default ⟨#[], #[], []⟩).heap.size
noncomputable def laidWorld (os : Os) : World :=
  let w := World.holding Tryz.prog os ⟨#[.cells #[.string { data := #[99, 114, 121, 112, 116, 111, 47, 114, 115, 97, 58, 32, 109, 101, 115, 115, 97, 103, 101, 32, 116, 111, 111, 32, 108, 111, 110, 103, 32, 102, 111, 114, 32, 82, 83, 65, 32, 107, 101, 121, 32, 115, 105, 122, 101] }] 117, .cells #[.string { data := #[99, 114, 121, 112, 116, 111, 47, 114, 115, 97, 58, 32, 100, 101, 99, 114, 121, 112, 116, 105, 111, 110, 32, 101, 114, 114, 111, 114] }] 117, .cells #[.string { data := #[99, 114, 121, 112, 116, 111, 47, 114, 115, 97, 58, 32, 118, 101, 114, 105, 102, 105, 99, 97, 116, 105, 111, 110, 32, 101, 114, 114, 111, 114] }] 117], #[], []⟩
  { w with heap := (((w.heap.modify 1 fun
      | .cells _ t frozen => .cells #[.iface 115 (.pointer (some ⟨low + 0, 0, none⟩))] t frozen
      | o => o).modify 2 fun
      | .cells _ t frozen => .cells #[.iface 115 (.pointer (some ⟨low + 1, 0, none⟩))] t frozen
      | o => o).modify 0 fun
      | .cells _ t frozen => .cells #[.iface 115 (.pointer (some ⟨low + 2, 0, none⟩))] t frozen
      | o => o) }
theorem laid_met (os : Os) : laidMet Tryz.prog Rows.fnSign15Row.laid ((laidWorld os).forCall (fun _ _ => 0) ⟨#[], #[.int .u8 0, .int .u8 0, .slice none 0 0, .int .u16 0, .int .u8 0], []⟩).memory :=
  laidMet_of_run' 8 (by kernel_rfl) (by kernel_rfl)
theorem reads (os : Os) {H : Type} (enc : TypeId × Value → H) : ∃ places, DataW.whole enc Tryz.prog ((laidWorld os).forCall (fun _ _ => 0) ⟨#[], #[.int .u8 0, .int .u8 0, .slice none 0 0, .int .u16 0, .int .u8 0], []⟩).memory Tryz.f3.params.toList Rows.fnSign15Spec.vars false (#[.int .u8 0, .int .u8 0, .slice none 0 0, .int .u16 0, .int .u8 0] : Array Value).toList 8 = some ([.lit (.int .u8 0), .lit (.int .u8 0), .nil, .lit (.int .u16 0), .lit (.int .u8 0)], [tok enc (.iface 115 (.pointer (some ⟨low + 0, 0, none⟩))), tok enc (.iface 115 (.pointer (some ⟨low + 1, 0, none⟩))), tok enc (.iface 115 (.pointer (some ⟨low + 2, 0, none⟩)))], places) :=
  ⟨[.cell 1 0, .cell 2 0, .cell 0 0], by kernel_rfl⟩

set_option maxRecDepth 100000 in
theorem lifted (os : Os) (started : os.Started) (H : Type) (enc : TypeId × Value → H) (F : Stop.Interp) :
    ReturnsInHanded {} Tryz.checked os 3 .any ((OpenSpec.ofChange Rows.fnSign15Spec).preRow enc Tryz.prog Tryz.f3 Rows.fnSign15Row.domain false Rows.fnSign15Row.laid) (((OpenSpec.ofChange Rows.fnSign15Spec).at F).post enc Tryz.prog Tryz.f3 false true false false) := by
  obtain ⟨places, hx⟩ := reads os enc
  refine returnsInHanded_of_row (C := Tryz.checked) (s := OpenSpec.ofChange Rows.fnSign15Spec) own started (by kernel_rfl) Tryz.func3
    (witness_row_at (enc := enc) (C := Tryz.checked) false (laidWorld os) #[.int .u8 0, .int .u8 0, .slice none 0 0, .int .u16 0, .int .u8 0] rfl (by kernel_rfl) (by kernel_rfl) (by kernel_rfl)
      (OpenSpec.preRow_of_cond 8 hx (by kernel_rfl) (fun k hk => by cases hk) (by kernel_rfl) (by rw [MakeChecks.laidMetH_plain _ _ _ (by kernel_rfl)]; exact laid_met os))) ?_
  intro W base args ds gs before hval hW _ _ _ hL _ _
  exact contract H enc W base args ds gs before hval hW hL

theorem said : Rows.FnSign15Said :=
  OpenClaim.holds_of_cond 3 Tryz.f3 rfl rfl rfl rfl rfl rfl rfl ⟨rfl, rfl, rfl, rfl, rfl⟩ rfl rfl rfl rfl rfl (by kernel_rfl) Tryz.func3 (by kernel_rfl)
    (of_decide_eq_true (by kernel_rfl)) (by unfold Func.isWrapper; first | (rw [if_pos (by decide +kernel)]; kernel_rfl) | (rw [if_neg (by decide +kernel)]; exact ⟨rfl, rfl⟩))
    (fun os started H enc _ F => by rw [OpenClaim.pre_eq_preRow]; exact lifted os started H enc F)

theorem plain (f : FuncId) (fn : Func) (hf : Tryz.pinned.checked.prog.funcNamed Rows.fnSign15Row.func = some f) (hfn : Tryz.pinned.checked.prog.funcs[f]? = some fn) :
    false = Tryz.pinned.checked.prog.looks [] ∧ ∀ (j : Nat) t, fn.params[j]? = some t → Tryz.pinned.checked.prog.wantsStandIn t = false := by
  obtain rfl : f = 3 := Option.some.inj ((show Tryz.prog.funcNamed Rows.fnSign15Row.func = some 3 by kernel_rfl).symm.trans hf) |>.symm
  obtain rfl : fn = Tryz.f3 := (Option.some.inj (Tryz.func3.symm.trans hfn)).symm
  refine ⟨by kernel_rfl, fun j t ht => ?_⟩
  rw [Tryz.params3] at ht
  have hm := Array.mem_of_getElem? ht
  have hall : ∀ u ∈ (#[5, 5, 22, 23, 5] : Array TypeId), Tryz.prog.wantsStandIn u = false := by
    intro u hu
    simp only [List.mem_toArray, List.mem_cons, List.not_mem_nil, or_false] at hu
    rcases hu with rfl | rfl | rfl | rfl | rfl <;> kernel_rfl
  exact hall t hm

/-- The card. -/
theorem card : Rows.FnSign15CardSaid :=
  Claim7.holds_tied_plain_at .later [] _ _ _ _ said (fun _ h => by cases h) (by kernel_rfl) (fun _ h => by cases h) fnSign15_row_tie rfl ⟨rfl, rfl⟩ (by kernel_rfl) rfl plain (by kernel_rfl)
#print axioms card
end Go.Proofs.YtdmpiecdpdknaaaGreatDoor.fnSign15
