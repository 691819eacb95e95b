/-
  sha256.block.
-/
import Derived.Test.YtgkfnmmajehobaaBlockT
namespace Go.Proofs.Ytgkfnmmajehobaa
open Go.RowKit

theorem block_any (g : Nat) (h : Reg) (rest : List Value) (ks : List Int) (A : Option Addr) (cap : Nat) (p : List UInt8) (w : World) (hd : DgAt w g h rest) (hk : KAt w ks) (hp : BytesAt w A p) (hA : ∀ a, A = some a → a.block < w.heap.size) (hc : p.length ≤ cap) :
    Calls Try.prog 36 #[.pointer (some ⟨g, 0, none⟩), .slice A p.length cap] w fun e w' => e = .returned (.tuple #[]) ∧ DgAt w' g (hsF (blkS ks) h p (p.length / 64)) rest ∧ Kept (OneBlk g) w w' := by
  have H := Lib.hid (blockG_any g h rest ks A cap p w hd hk hp hA hc)
  clear hd hk hp hA hc
  go_enter Try.func36, Try.ntmps36
  go_wp2_with fail
  refine H.out.mono ?_
  rintro e w1 ⟨rfl, h1⟩
  have FIN := Lib.hid h1
  clear h1
  go_wp2_with fail
  refine bodyPost_end (results_none rfl _ _ _) rfl ?_
  exact ⟨rfl, FIN.out⟩

end Go.Proofs.Ytgkfnmmajehobaa
