/-
  Proved: FnEncode15 answers true for all inputs and changes nothing; the listed error variable holds what the program lays (the card ties it).
-/
import Derived.Test.YtmheoenieaemmaaDoorCards
import Derived.Test.YtmheoenieaemmaaDoorTie
import Derived.Test.YtmheoenieaemmaaDoorEnc15Law
import Derived.Test.YtmheoenieaemmaaDoorGlobT
import Derived.ChangeVars
import Derived.RowKitTokens
import Derived.ProofKit
import Derived.OpenShut
import Derived.ShutString
import Derived.ChangeOld
import Derived.Lib.SmallJoins
import Derived.Deep.DeepHandedRow
import Derived.Lib.LaidTab
namespace Go.Proofs.YtmheoenieaemmaaDoor.fnEncode15
open Go.ChangeShapes Go.WideShapes Go.ChangeAt Go.RowKit
open Go.ChangeMaps (open_string shut_string)
set_option linter.unusedVariables false

theorem own : ownKnob Tryd.prog.godebug = none := by kernel_rfl
theorem laidOut : laidOutB Tryd.prog = true := by kernel_rfl

set_option maxRecDepth 100000 in
/-- What the walk gives, for every argument and every world in which the listed variables hold what is listed. -/
theorem contract (H : Type) (enc : TypeId × Value → H) (W : World) (base : Nat) (args : Array Value) (ds gs : List (DataW H)) (before : List MemPlace)
    (hval0 : ∀ (j : Nat) t v, Tryd.f3.params[j]? = some t → args[j]? = some v → Value.okWide Tryd.prog W .any base t v)
    (hW : DataW.Whole enc Tryd.prog Tryd.f3.params.toList Rows.fnEncode15Spec.vars false W args.toList ds gs before) (hL : laidMetH Tryd.prog Rows.fnEncode15Row.laid W) :
    Calls Tryd.prog 3 args W fun e W' => ∃ v, e = .returned v ∧ Rows.fnEncode15Spec.post enc Tryd.prog Tryd.f3 false true false false W args v W' := by
  have hval : ∀ (j : Nat) t v, Tryd.f3.params[j]? = some t → args[j]? = some v → Value.okWide Tryd.prog W .any base t v := hval0
  have hW' := hW
  obtain ⟨p, q, hA0, hV, rfl, hfz, hnd⟩ := hW
  have hA : DataW.TrodAll enc Tryd.prog W 0 (fun _ => true) true Tryd.f3.params.toList args.toList ds p := hA0
  rw [Tryd.params3] at hA hval
  obtain ⟨v0, vs0, d0, ds0, p0, q0, hargs, rfl, rfl, h0, r0⟩ := trodAll_cons hA
  obtain ⟨v1, vs1, d1, ds1, p1, q1, rfl, rfl, rfl, h1, r1⟩ := trodAll_cons r0
  obtain ⟨v2, vs2, d2, ds2, p2, q2, rfl, rfl, rfl, h2, r2⟩ := trodAll_cons r1
  obtain ⟨rfl, rfl, rfl⟩ := trodAll_nil r2
  obtain rfl : args = #[v0, v1, v2] := by cases args; simp_all
  have hVV : DataW.TrodVars enc Tryd.prog W (fun _ => true) ["loop.example/pub-g03132/pub/rsa.ErrMessageTooLong"] gs q := hV
  obtain ⟨gv, tv, csv, fv, dv, pv, rfl, hgv, htv, hvarv, hvtv, rfl⟩ := trodVars_one hVV
  obtain rfl : tv = 62 := Option.some.inj (htv.symm.trans (by rw [← Option.some.inj ((show _ = some 0 by kernel_rfl).symm.trans hgv)]; kernel_rfl))
  obtain ⟨xv, rfl, hxv, rfl, rfl, hcv⟩ := token_of hgv Tryd.underlying62 hvarv hvtv
  obtain ⟨a0, rfl, rfl, rfl, w0⟩ := open_int Tryd.underlying22 (hval 0 22 v0 rfl rfl) h0
  have bd0 := bounds_u16 w0
  obtain ⟨a1, rfl, rfl, rfl, w1⟩ := open_int Tryd.underlying5 (hval 1 5 v1 rfl rfl) h1
  have bd1 := bounds_u8 w1
  obtain ⟨A2, len2, cap2, rfl⟩ := okWide_slice Tryd.underlying23 (hval 2 23 v2 rfl rfl)
  have k2 := h2
  have lt2 : ∀ x ∈ p2, x.block < W.heap.size := by obtain ⟨m, hm⟩ := k2; exact DataW.trod_lt m _ _ _ hm
  obtain ⟨z2, w2⟩ : ∃ zs, IsRow .u8 W A2 len2 cap2 zs := by
    obtain ⟨fuel, hf⟩ := h2
    rcases open_ints Tryd.underlying23 Tryd.underlying5 (by kernel_rfl) hf with ⟨hcs, _⟩ | ⟨x, l, c, zs, hcs, _, hl, hm, hz, _, hcell, hwz⟩
    · simp [Value.cells] at hcs
      obtain ⟨rfl, rfl, rfl⟩ := hcs
      exact ⟨[], .inl ⟨rfl, rfl, rfl, rfl⟩⟩
    · simp [Value.cells] at hcs
      obtain ⟨rfl, rfl, rfl⟩ := hcs
      exact ⟨zs, .inr ⟨_, rfl, hl, hm, by simpa using hz, hcell, hwz⟩⟩
  obtain ⟨xs2, rfl, bx2, lc2, cm2⟩ := w2.bytes
  clear hA0 hval0
  obtain ⟨ea, hG⟩ := tooLong_of_laid hL
  refine (fnEncode15_walk a0 a1 A2 cap2 xs2 W bd0.1 bd0.2 bd1.1 bd1.2 bx2 lc2 cm2 ea hG).mono fun e W' ⟨he, kept⟩ => ?_
  have bel := kept.below
  subst he
  exact ⟨_, rfl, _, _, _, [], _, _, hW', trodAll_mk1 (shut_bool Tryd.underlying4 _), (trodAll_cons_mk (shut_int Tryd.underlying22 w0) (trodAll_cons_mk (shut_int Tryd.underlying5 w1) (trodAll_cons_mk (Below.trod laidOut (by kernel_rfl) (of_decide_eq_true (by kernel_rfl)) k2 bel lt2) trodAll_mk0))), trodVars_mk1 (fuel := 1) (d := tok enc xv) (p := []) hgv htv (Joins.var_stays hgv hvarv bel (Nat.le_refl _)) (trod_held Tryd.underlying62 hxv 0), bel.frame _, fun h => by cases h⟩

/-- A world for the witness: the settled one, the listed variables laid. -/
noncomputable def low : Nat := (World.holding Tryd.prog default ⟨#[], #[], []⟩).heap.size
noncomputable def laidWorld (os : Os) : World :=
  let w := World.holding Tryd.prog os ⟨#[.cells #[.string { data := #[99, 114, 121, 112, 116, 111, 47, 114, 115, 97, 58, 32, 109, 101, 115, 115, 97, 103, 101, 32, 116, 111, 111, 32, 108, 111, 110, 103, 32, 102, 111, 114, 32, 82, 83, 65, 32, 107, 101, 121, 32, 115, 105, 122, 101] }] 150], #[], []⟩
  { w with heap := (w.heap.modify 0 fun
      | .cells _ t frozen => .cells #[.iface 148 (.pointer (some ⟨low + 0, 0, none⟩))] t frozen
      | o => o) }
theorem laid_met (os : Os) : laidMet Tryd.prog Rows.fnEncode15Row.laid ((laidWorld os).forCall (fun _ _ => 0) ⟨#[], #[.int .u16 0, .int .u8 0, .slice none 0 0], []⟩).memory :=
  laidMet_of_run' 8 (by kernel_rfl) (by kernel_rfl)
theorem reads (os : Os) {H : Type} (enc : TypeId × Value → H) : ∃ places, DataW.whole enc Tryd.prog ((laidWorld os).forCall (fun _ _ => 0) ⟨#[], #[.int .u16 0, .int .u8 0, .slice none 0 0], []⟩).memory Tryd.f3.params.toList Rows.fnEncode15Spec.vars false (#[.int .u16 0, .int .u8 0, .slice none 0 0] : Array Value).toList 8 = some ([.lit (.int .u16 0), .lit (.int .u8 0), .nil], [tok enc (.iface 148 (.pointer (some ⟨low + 0, 0, none⟩)))], places) :=
  ⟨[.cell 0 0], by kernel_rfl⟩

set_option maxRecDepth 100000 in
theorem lifted (os : Os) (started : os.Started) (H : Type) (enc : TypeId × Value → H) (F : Stop.Interp) :
    ReturnsInHanded {} Tryd.checked os 3 .any ((OpenSpec.ofChange Rows.fnEncode15Spec).preRow enc Tryd.prog Tryd.f3 Rows.fnEncode15Row.domain false Rows.fnEncode15Row.laid) (((OpenSpec.ofChange Rows.fnEncode15Spec).at F).post enc Tryd.prog Tryd.f3 false true false false) := by
  obtain ⟨places, hx⟩ := reads os enc
  refine returnsInHanded_of_row (C := Tryd.checked) (s := OpenSpec.ofChange Rows.fnEncode15Spec) own started (by kernel_rfl) Tryd.func3
    (witness_row_at (enc := enc) (C := Tryd.checked) false (laidWorld os) #[.int .u16 0, .int .u8 0, .slice none 0 0] rfl (by kernel_rfl) (by kernel_rfl) (by kernel_rfl)
      (OpenSpec.preRow_of_cond 8 hx (by kernel_rfl) (fun k hk => by cases hk) (by kernel_rfl) (by rw [MakeChecks.laidMetH_plain _ _ _ (by kernel_rfl)]; exact laid_met os))) ?_
  intro W base args ds gs before hval hW _ _ _ hL _ _
  exact contract H enc W base args ds gs before hval hW hL

theorem said : Rows.FnEncode15Said :=
  OpenClaim.holds_of_cond 3 Tryd.f3 rfl rfl rfl rfl rfl rfl rfl ⟨rfl, rfl, rfl, rfl, rfl⟩ rfl rfl rfl rfl rfl (by kernel_rfl) Tryd.func3 (by kernel_rfl)
    (of_decide_eq_true (by kernel_rfl)) (by unfold Func.isWrapper; first | (rw [if_pos (by decide +kernel)]; kernel_rfl) | (rw [if_neg (by decide +kernel)]; exact ⟨rfl, rfl⟩))
    (fun os started H enc _ F => by rw [OpenClaim.pre_eq_preRow]; exact lifted os started H enc F)

theorem plain (f : FuncId) (fn : Func) (hf : Tryd.pinned.checked.prog.funcNamed Rows.fnEncode15Row.func = some f) (hfn : Tryd.pinned.checked.prog.funcs[f]? = some fn) :
    false = Tryd.pinned.checked.prog.looks [] ∧ ∀ (j : Nat) t, fn.params[j]? = some t → Tryd.pinned.checked.prog.wantsStandIn t = false := by
  obtain rfl : f = 3 := Option.some.inj ((show Tryd.prog.funcNamed Rows.fnEncode15Row.func = some 3 by kernel_rfl).symm.trans hf) |>.symm
  obtain rfl : fn = Tryd.f3 := (Option.some.inj (Tryd.func3.symm.trans hfn)).symm
  refine ⟨by kernel_rfl, fun j t ht => ?_⟩
  rw [Tryd.params3] at ht
  have hm := Array.mem_of_getElem? ht
  have hall : ∀ u ∈ (#[22, 5, 23] : Array TypeId), Tryd.prog.wantsStandIn u = false := by
    intro u hu
    simp only [List.mem_toArray, List.mem_cons, List.not_mem_nil, or_false] at hu
    rcases hu with rfl | rfl | rfl <;> kernel_rfl
  exact hall t hm

/-- The card. -/
theorem card : Rows.FnEncode15CardSaid :=
  Claim7.holds_tied_plain_at .later [] _ _ _ _ said (fun _ h => by cases h) (by kernel_rfl) (fun _ h => by cases h) fnEncode15_row_tie rfl ⟨rfl, rfl⟩ (by kernel_rfl) rfl plain (by kernel_rfl)
#print axioms card
end Go.Proofs.YtmheoenieaemmaaDoor.fnEncode15
