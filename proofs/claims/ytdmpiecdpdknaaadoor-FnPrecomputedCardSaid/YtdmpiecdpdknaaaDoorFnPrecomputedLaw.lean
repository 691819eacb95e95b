/-
  Proved: FnPrecomputed answers true for all inputs and changes nothing; the listed error variable holds what the program lays (the card ties it).
-/
import Derived.Test.YtdmpiecdpdknaaaDoorCards
import Derived.Test.YtdmpiecdpdknaaaDoorTie
import Derived.Test.YtdmpiecdpdknaaaDoorPrecomputed
import Derived.ChangeVars
import Derived.RowKitTokens
import Derived.ProofKit
import Derived.OpenShut
import Derived.ShutString
import Derived.ChangeOld
import Derived.Lib.SmallJoins
import Derived.Deep.DeepHandedRow
import Derived.Lib.LaidTab
namespace Go.Proofs.YtdmpiecdpdknaaaDoor.fnPrecomputed
open Go.ChangeShapes Go.WideShapes Go.ChangeAt Go.RowKit
open Go.ChangeMaps (open_string shut_string)
set_option linter.unusedVariables false

theorem own : ownKnob Tryd.prog.godebug = none := by kernel_rfl
theorem laidOut : laidOutB Tryd.prog = true := by kernel_rfl

set_option maxRecDepth 100000 in
/-- What the walk gives, for every argument and every world in which the listed variables hold what is listed. -/
theorem contract (H : Type) (enc : TypeId × Value → H) (W : World) (base : Nat) (args : Array Value) (ds gs : List (DataW H)) (before : List MemPlace)
    (hval0 : ∀ (j : Nat) t v, Tryd.f6.params[j]? = some t → args[j]? = some v → Value.okWide Tryd.prog W .any base t v)
    (hW : DataW.Whole enc Tryd.prog Tryd.f6.params.toList Rows.fnPrecomputedSpec.vars false W args.toList ds gs before) (hL : laidMetH Tryd.prog Rows.fnPrecomputedRow.laid W) :
    Calls Tryd.prog 6 args W fun e W' => ∃ v, e = .returned v ∧ Rows.fnPrecomputedSpec.post enc Tryd.prog Tryd.f6 false true false false W args v W' := by
  have hval : ∀ (j : Nat) t v, Tryd.f6.params[j]? = some t → args[j]? = some v → Value.okWide Tryd.prog W .any base t v := hval0
  have hW' := hW
  obtain ⟨p, q, hA0, hV, rfl, hfz, hnd⟩ := hW
  have hA : DataW.TrodAll enc Tryd.prog W 0 (fun _ => true) true Tryd.f6.params.toList args.toList ds p := hA0
  rw [Tryd.params6] at hA hval
  obtain ⟨v0, vs0, d0, ds0, p0, q0, hargs, rfl, rfl, h0, r0⟩ := trodAll_cons hA
  obtain ⟨v1, vs1, d1, ds1, p1, q1, rfl, rfl, rfl, h1, r1⟩ := trodAll_cons r0
  obtain ⟨rfl, rfl, rfl⟩ := trodAll_nil r1
  obtain rfl : args = #[v0, v1] := by cases args; simp_all
  have hVV : DataW.TrodVars enc Tryd.prog W (fun _ => true) ["loop.example/pub-g03132/pub/rsa.ErrDecryption"] gs q := hV
  obtain ⟨gv, tv, csv, fv, dv, pv, rfl, hgv, htv, hvarv, hvtv, rfl⟩ := trodVars_one hVV
  obtain rfl : tv = 46 := Option.some.inj (htv.symm.trans (by rw [← Option.some.inj ((show _ = some 0 by kernel_rfl).symm.trans hgv)]; kernel_rfl))
  obtain ⟨xv, rfl, hxv, rfl, rfl, hcv⟩ := token_of hgv Tryd.underlying46 hvarv hvtv
  obtain ⟨a0, rfl, rfl, rfl, w0⟩ := open_int Tryd.underlying5 (hval 0 5 v0 rfl rfl) h0
  have bd0 := bounds_u8 w0
  obtain ⟨A1, len1, cap1, rfl⟩ := okWide_slice Tryd.underlying22 (hval 1 22 v1 rfl rfl)
  have k1 := h1
  have lt1 : ∀ x ∈ p1, x.block < W.heap.size := by obtain ⟨m, hm⟩ := k1; exact DataW.trod_lt m _ _ _ hm
  obtain ⟨z1, w1⟩ : ∃ zs, IsRow .u8 W A1 len1 cap1 zs := by
    obtain ⟨fuel, hf⟩ := h1
    rcases open_ints Tryd.underlying22 Tryd.underlying5 (by kernel_rfl) hf with ⟨hcs, _⟩ | ⟨x, l, c, zs, hcs, _, hl, hm, hz, _, hcell, hwz⟩
    · simp [Value.cells] at hcs
      obtain ⟨rfl, rfl, rfl⟩ := hcs
      exact ⟨[], .inl ⟨rfl, rfl, rfl, rfl⟩⟩
    · simp [Value.cells] at hcs
      obtain ⟨rfl, rfl, rfl⟩ := hcs
      exact ⟨zs, .inr ⟨_, rfl, hl, hm, by simpa using hz, hcell, hwz⟩⟩
  obtain ⟨xs1, rfl, bx1, lc1, cm1⟩ := w1.bytes
  clear hA0 hval0
  refine (fnPrecomputed_walk a0 A1 cap1 xs1 W bd0.1 bd0.2 bx1 lc1 cm1 ).mono fun e W' ⟨he, kept⟩ => ?_
  have bel := kept.below
  subst he
  exact ⟨_, rfl, _, _, _, [], _, _, hW', trodAll_mk1 (shut_bool Tryd.underlying4 _), (trodAll_cons_mk (shut_int Tryd.underlying5 w0) (trodAll_cons_mk (Below.trod laidOut (by kernel_rfl) (of_decide_eq_true (by kernel_rfl)) k1 bel lt1) trodAll_mk0)), trodVars_mk1 (fuel := 1) (d := tok enc xv) (p := []) hgv htv (Joins.var_stays hgv hvarv bel (Nat.le_refl _)) (trod_held Tryd.underlying46 hxv 0), bel.frame _, fun h => by cases h⟩

/-- A world for the witness: the settled one, the listed variables laid. -/
noncomputable def low : Nat := (World.holding Tryd.prog default ⟨#[], #[], []⟩).heap.size
noncomputable def laidWorld (os : Os) : World :=
  let w := World.holding Tryd.prog os ⟨#[.cells #[.string { data := #[99, 114, 121, 112, 116, 111, 47, 114, 115, 97, 58, 32, 100, 101, 99, 114, 121, 112, 116, 105, 111, 110, 32, 101, 114, 114, 111, 114] }] 111], #[], []⟩
  { w with heap := (w.heap.modify 0 fun
      | .cells _ t frozen => .cells #[.iface 109 (.pointer (some ⟨low + 0, 0, none⟩))] t frozen
      | o => o) }
theorem laid_met (os : Os) : laidMet Tryd.prog Rows.fnPrecomputedRow.laid ((laidWorld os).forCall (fun _ _ => 0) ⟨#[], #[.int .u8 0, .slice none 0 0], []⟩).memory :=
  laidMet_of_run' 8 (by kernel_rfl) (by kernel_rfl)
theorem reads (os : Os) {H : Type} (enc : TypeId × Value → H) : ∃ places, DataW.whole enc Tryd.prog ((laidWorld os).forCall (fun _ _ => 0) ⟨#[], #[.int .u8 0, .slice none 0 0], []⟩).memory Tryd.f6.params.toList Rows.fnPrecomputedSpec.vars false (#[.int .u8 0, .slice none 0 0] : Array Value).toList 8 = some ([.lit (.int .u8 0), .nil], [tok enc (.iface 109 (.pointer (some ⟨low + 0, 0, none⟩)))], places) :=
  ⟨[.cell 0 0], by kernel_rfl⟩

set_option maxRecDepth 100000 in
theorem lifted (os : Os) (started : os.Started) (H : Type) (enc : TypeId × Value → H) (F : Stop.Interp) :
    ReturnsInHanded {} Tryd.checked os 6 .any ((OpenSpec.ofChange Rows.fnPrecomputedSpec).preRow enc Tryd.prog Tryd.f6 Rows.fnPrecomputedRow.domain false Rows.fnPrecomputedRow.laid) (((OpenSpec.ofChange Rows.fnPrecomputedSpec).at F).post enc Tryd.prog Tryd.f6 false true false false) := by
  obtain ⟨places, hx⟩ := reads os enc
  refine returnsInHanded_of_row (C := Tryd.checked) (s := OpenSpec.ofChange Rows.fnPrecomputedSpec) own started (by kernel_rfl) Tryd.func6
    (witness_row_at (enc := enc) (C := Tryd.checked) false (laidWorld os) #[.int .u8 0, .slice none 0 0] rfl (by kernel_rfl) (by kernel_rfl) (by kernel_rfl)
      (OpenSpec.preRow_of_cond 8 hx (by kernel_rfl) (fun k hk => by cases hk) (by kernel_rfl) (by rw [MakeChecks.laidMetH_plain _ _ _ (by kernel_rfl)]; exact laid_met os))) ?_
  intro W base args ds gs before hval hW _ _ _ hL _ _
  exact contract H enc W base args ds gs before hval hW hL

theorem said : Rows.FnPrecomputedSaid :=
  OpenClaim.holds_of_cond 6 Tryd.f6 rfl rfl rfl rfl rfl rfl rfl ⟨rfl, rfl, rfl, rfl, rfl⟩ rfl rfl rfl rfl rfl (by kernel_rfl) Tryd.func6 (by kernel_rfl)
    (of_decide_eq_true (by kernel_rfl)) (by unfold Func.isWrapper; first | (rw [if_pos (by decide +kernel)]; kernel_rfl) | (rw [if_neg (by decide +kernel)]; exact ⟨rfl, rfl⟩))
    (fun os started H enc _ F => by rw [OpenClaim.pre_eq_preRow]; exact lifted os started H enc F)

theorem plain (f : FuncId) (fn : Func) (hf : Tryd.pinned.checked.prog.funcNamed Rows.fnPrecomputedRow.func = some f) (hfn : Tryd.pinned.checked.prog.funcs[f]? = some fn) :
    false = Tryd.pinned.checked.prog.looks [] ∧ ∀ (j : Nat) t, fn.params[j]? = some t → Tryd.pinned.checked.prog.wantsStandIn t = false := by
  obtain rfl : f = 6 := Option.some.inj ((show Tryd.prog.funcNamed Rows.fnPrecomputedRow.func = some 6 by kernel_rfl).symm.trans hf) |>.symm
  obtain rfl : fn = Tryd.f6 := (Option.some.inj (Tryd.func6.symm.trans hfn)).symm
  refine ⟨by kernel_rfl, fun j t ht => ?_⟩
  rw [Tryd.params6] at ht
  have hm := Array.mem_of_getElem? ht
  have hall : ∀ u ∈ (#[5, 22] : Array TypeId), Tryd.prog.wantsStandIn u = false := by
    intro u hu
    simp only [List.mem_toArray, List.mem_cons, List.not_mem_nil, or_false] at hu
    rcases hu with rfl | rfl <;> kernel_rfl
  exact hall t hm

/-- The card. -/
theorem card : Rows.FnPrecomputedCardSaid :=
  Claim7.holds_tied_plain_at .later [] _ _ _ _ said (fun _ h => by cases h) (by kernel_rfl) (fun _ h => by cases h) fnPrecomputed_row_tie rfl ⟨rfl, rfl⟩ (by kernel_rfl) rfl plain (by kernel_rfl)
#print axioms card
end Go.Proofs.YtdmpiecdpdknaaaDoor.fnPrecomputed
