/-
  The walk of FnUnpadMade.
-/
import Derived.Test.YtcjjcghkokgjfaaUnpadLaw
import Derived.Test.YtcjjcghkokgjfaaBeyond
import Derived.Test.YtcjjcghkokgjfaaJoined
namespace Go.Proofs.Ytcjjcghkokgjfaa
open Go.RowKit

theorem fnUnpadMade_walk (a b : Int) (A : Option Addr) (cap : Nat) (xs : List UInt8) (A' : Option Addr) (cap' : Nat) (ys : List UInt8) (w : World) (ha0 : 0 ≤ a) (ha1 : a ≤ 255) (hb0 : 0 ≤ b) (hb1 : b ≤ 255)
    (hx : BytesAt w A xs) (_hc : xs.length ≤ cap) (_hm : cap ≤ maxLen) (hy : BytesAt w A' ys) (_hc' : ys.length ≤ cap') (_hm' : cap' ≤ maxLen) :
    Calls Try.prog 5 #[.int .u8 a, .int .u8 b, .slice A xs.length cap, .slice A' ys.length cap'] w fun e w' => e = .returned (.bool true) ∧ Kept NoBlk w w' := by
  unfold maxLen at _hm _hm'
  obtain ⟨a, rfl⟩ := byte_of ha0 ha1
  obtain ⟨b, rfl⟩ := byte_of hb0 hb1
  by_cases h1 : 2147483647 < xs.length
  · go_enter Try.func5, Try.ntmps5
    go_wp2_with fail
    go_ret
    exact ⟨rfl, Kept.refl _ _⟩
  by_cases h2 : 2147483647 < ys.length
  · go_enter Try.func5, Try.ntmps5
    go_wp2_with fail
    go_ret
    exact ⟨rfl, Kept.refl _ _⟩
  have hbey := beyond_any w.heap.size [xs.length, ys.length] (w.alloc (.cells #[.int .i64 xs.length, .int .i64 ys.length] 3))
    (at_new w 3 ([xs.length, ys.length].map fun (n : Nat) => Value.int .i64 (n : Int))) (by simp)
  by_cases h3 : 1048576 < xs.length ∨ 1048576 < ys.length
  · rw [show ([xs.length, ys.length].any fun n => decide (1048576 < n)) = true by simpa using h3] at hbey
    have HB := Lib.hid hbey
    clear hbey
    go_enter Try.func5, Try.ntmps5
    go_wp2_with fail
    refine HB.out.mono ?_
    rintro e w' ⟨rfl, rfl⟩
    go_wp2_with fail
    go_ret
    exact ⟨rfl, (Kept.refl _ _).alloc _⟩
  · rw [show ([xs.length, ys.length].any fun n => decide (1048576 < n)) = false by simp; omega] at hbey
    have HB := Lib.hid hbey
    have HX := Lib.hid hx
    have HY := Lib.hid hy
    clear hbey hx hy
    go_enter Try.func5, Try.ntmps5
    go_wp2_with fail
    refine HB.out.mono ?_
    rintro e w' ⟨rfl, rfl⟩
    go_wp2_with fail
    have W0 : BytesAt (w.alloc (Obj.cells #[Value.int IntKind.i64 ↑xs.length, Value.int IntKind.i64 ↑ys.length] 3)) A xs := HX.out.alloc _
    have hj := joined_any (w.heap.size + 1 + 1 + 1) [(some ⟨w.heap.size + 1, 0, none⟩, 2, [a, b]), (A, cap, xs), (some ⟨w.heap.size + 1 + 1, 0, none⟩, 1, [0]), (A', cap', ys)]
      ((((w.alloc (Obj.cells #[Value.int IntKind.i64 ↑xs.length, Value.int IntKind.i64 ↑ys.length] 3)).alloc (Obj.cells #[Value.int IntKind.u8 a.toNat, Value.int IntKind.u8 b.toNat] 5)).alloc (Obj.cells #[Value.int IntKind.u8 0] 5)).alloc
        (Obj.cells #[Value.slice (some { block := w.heap.size + 1, off := 0 }) 2 2, Value.slice A xs.length cap, Value.slice (some { block := w.heap.size + 1 + 1, off := 0 }) 1 1, Value.slice A' ys.length cap'] 27))
      (at_new' _ 27 ([(some ⟨w.heap.size + 1, 0, none⟩, 2, [a, b]), (A, cap, xs), (some ⟨w.heap.size + 1 + 1, 0, none⟩, 1, [0]), (A', cap', ys)].map BPiece.val) _ (by simp))
      (by simp)
      (by
        intro p hp
        simp only [List.mem_cons, List.not_mem_nil, or_false] at hp
        rcases hp with rfl | rfl | rfl | rfl
        · exact ((bytesAt_new _ 5 [a, b] _ (by simp)).alloc _).alloc _
        · exact (((HX.out.alloc _).alloc _).alloc _).alloc _
        · exact (bytesAt_new _ 5 [0] _ (by simp)).alloc _
        · exact (((HY.out.alloc _).alloc _).alloc _).alloc _)
      (by simp [joinOf]; omega)
    refine hj.mono ?_
    rintro e w1 ⟨v, rfl, hown, hk⟩
    obtain ⟨A1, c1, rfl, hc1, hm1, hat, _⟩ := own_form hown
    have HK := Lib.hid hk
    clear hk hown hj W0
    go_wp2_with fail
    refine (fnUnpad_walk A1 c1 _ w1 hat hc1 hm1).mono ?_
    rintro e w2 ⟨rfl, hk2⟩
    have HK2 := Lib.hid hk2
    clear hk2
    go_wp2_with fail
    go_ret
    exact ⟨rfl, (((((Kept.refl _ _).alloc _).alloc _).alloc _).alloc _ |>.none HK.out).none HK2.out⟩

end Go.Proofs.Ytcjjcghkokgjfaa
