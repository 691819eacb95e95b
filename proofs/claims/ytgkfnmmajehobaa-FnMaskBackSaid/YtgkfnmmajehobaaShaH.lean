/-
  What sha256's methods do.
-/
import Derived.Test.YtgkfnmmajehobaaHasher
import Derived.Test.YtgkfnmmajehobaaShaRs
namespace Go.Proofs.Ytgkfnmmajehobaa
open Go.RowKit

def ShaAny (w : World) (g : Nat) (ks : List Int) : Prop := KAt w ks ∧ ∃ (h : Reg) (x : List UInt8) (nx len : Int), x.length = 64 ∧ DgAt w g h (DgR x nx len false)
def ShaSt (w : World) (g : Nat) (ks : List Int) (ws : List (List UInt8)) : Prop := KAt w ks ∧ ShaAt w g ks shaIV ws.flatten
def shaFn (ks : List Int) (ws : List (List UInt8)) : List UInt8 := shaF ks shaIV ws.flatten

theorem shaHasher (g : Nat) (ks : List Int) (hg0 : g ≠ 0) : Hasher 14 34 33 g (OneBlk g) (fun b => b = 0) 32 (fun w => ShaAny w g ks) (fun w ws => ShaSt w g ks ws) (shaFn ks) where
  flen := fun ws => rfl
  stAny := fun ⟨hk, x, hx, _, hd⟩ => ⟨hk, _, x, _, _, hx, hd⟩
  anyKept := fun ⟨hk, h, x, nx, len, hx, hd⟩ k hs => ⟨hk.kept k (hs 0 (.inr rfl)), h, x, nx, len, hx, hd.kept k (hs g (.inl rfl))⟩
  stKept := fun ⟨hk, h⟩ k hs => ⟨hk.kept k (hs 0 (.inr rfl)), h.kept k (hs g (.inl rfl))⟩
  reset := fun w ⟨hk, h, x, nx, len, hx, hd⟩ => by
    refine (shaReset_to g ks h x nx len w hd hx).mono ?_
    rintro e w' ⟨h1, h2, h3⟩
    exact ⟨h1, ⟨hk.kept h3 (fun e => hg0 e.symm), h2⟩, h3⟩
  write := fun w ws A c p ⟨hk, h⟩ hp hA hc hpl hl => by
    refine (shaWrite_any g ks shaIV ws.flatten A c p w h hk hg0 hp (fun a e h2 => hA a e (.inl h2)) hc hpl (by omega)).mono ?_
    rintro e w' ⟨h1, h2, h3⟩
    refine ⟨h1, ⟨hk.kept h3 (fun e => hg0 e.symm), ?_⟩, h3⟩
    rw [List.flatten_append, List.flatten_cons, List.flatten_nil, List.append_nil]
    exact h2
  sum := fun w ws N v xs ⟨hk, h⟩ hown hN hlt hxs hl => by
    refine (shaSum_any g N ks shaIV ws.flatten v xs w h hk (by omega) hown hN (hlt g (.inl rfl)) hxs).mono ?_
    rintro e w' ⟨v', h1, h2, h3⟩
    exact ⟨v', h1, h2, h3⟩

end Go.Proofs.Ytgkfnmmajehobaa
