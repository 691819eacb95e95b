/-
  What a listed sentinel error's variable holds.
-/
import Derived.Test.YtdmpiecdpdknaaaGreatDoorRows
import Derived.Test.YtdmpiecdpdknaaaGreatDoorGj
import Derived.LaidLaws
import Derived.MakeChecks
import Derived.ProofKit
namespace Go.Proofs.YtdmpiecdpdknaaaGreatDoor
open Go.RowKit

theorem rowErr (u : TypeId) (h : Tryz.prog.typeName? 3 u = some "*errors.errorString") : u = 115 :=
  typeName_ptr_named (nm := "errors.errorString") (by rw [show "*" ++ "errors.errorString" = "*errors.errorString" by decide]; kernel_rfl) (by kernel_rfl) (by decide) u (by rw [show "*" ++ "errors.errorString" = "*errors.errorString" by decide]; exact h)

set_option maxRecDepth 100000 in
theorem sent_of {W : World} {n : String} {g0 t0 : Nat} {cs0 : Array Value} {f0 : Nat} {s : List UInt8} {p0 : List MemPlace} (hg0 : Tryz.prog.globalNamed n = some g0) (hv0 : W.var? Tryz.prog n = some cs0)
    (hd0 : DataW.trod (fun _ => ()) Tryz.prog W 0 (fun _ => true) false f0 t0 cs0.toList = some (.iface "*errors.errorString" (.ptr (.agg [.lit (.string s)])), p0)) (ht : t0 = 49)
    (hok : ∀ u v, W.cell? ⟨g0, 0, none⟩ = some (.iface u v) → Value.okWide Tryz.prog W .any 0 u v) : ∃ ea, W.cell? ⟨g0, 0, none⟩ = some (.iface 115 (.pointer (some ea))) := by
  subst ht
  obtain ⟨l0⟩ := cs0
  have hc := World.var?_cell hg0 hv0 0
  have ok0 : ∀ u v, l0 = [.iface u v] → Value.okWide Tryz.prog W .any 0 u v := fun u v e => by
    subst e
    exact hok u v (by simpa using hc)
  obtain ⟨a0, s0, rfl, _⟩ := errorString_of_trod Tryz.underlying49 rowErr Tryz.underlying115 Tryz.underlying117 rfl rfl Tryz.underlying9 (by kernel_rfl) (by kernel_rfl) hd0 ok0
  exact ⟨a0, by simpa using hc⟩

end Go.Proofs.YtdmpiecdpdknaaaGreatDoor
