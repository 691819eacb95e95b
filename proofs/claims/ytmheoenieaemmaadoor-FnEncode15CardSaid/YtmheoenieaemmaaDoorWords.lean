/-
  Words: math/bits Add, Sub, Mul of words, and the small words of bigmod.
-/
import Derived.Test.YtmheoenieaemmaaDoorRows
import Derived.Test.YtmheoenieaemmaaDoorMem
import Derived.Shelf.Spec.BitsCarry
import Derived.Shelf.Bits.Mul64
namespace Go.Proofs.YtmheoenieaemmaaDoor
open Go.RowKit

/-- A word as a value. -/
def U (x : Nat) : Value := .int .u64 (x : Int)

theorem run_Add64 (x y c s k : Nat) (hc : c ≤ 1) (hs : s < 18446744073709551616) (h : x + y + c = s + 18446744073709551616 * k) (w : World) :
    (callFunc 131 #[.int .u64 x, .int .u64 y, .int .u64 c]).run Tryd.prog w = .ok (.value (.tuple #[.int .u64 s, .int .u64 k])) w := by
  rw [run_callFunc_extern Tryd.func131 (by kernel_rfl) (by kernel_rfl) (by kernel_rfl) (e := add64Entry) (by kernel_rfl), run_add64 x y c (by omega) (by omega) (by omega) (by omega)]
  have e1 : ((x : Int) + y + c) % 18446744073709551616 = s := by
    rw [show (x : Int) + y + c = s + 18446744073709551616 * k by omega, Int.add_mul_emod_self_left]; omega
  have e2 : ((x : Int) + y + c) / 18446744073709551616 = k := by
    rw [show (x : Int) + y + c = s + 18446744073709551616 * k by omega, Int.add_mul_ediv_left _ _ (by decide)]; omega
  rw [e1, e2]; rfl

theorem run_Sub64 (x y b d k : Nat) (hb : b ≤ 1) (hd : d < 18446744073709551616) (hx : x < 18446744073709551616) (hy : y < 18446744073709551616) (h : x + 18446744073709551616 * k = d + y + b) (w : World) :
    (callFunc 124 #[.int .u64 x, .int .u64 y, .int .u64 b]).run Tryd.prog w = .ok (.value (.tuple #[.int .u64 d, .int .u64 k])) w := by
  rw [run_callFunc_extern Tryd.func124 (by kernel_rfl) (by kernel_rfl) (by kernel_rfl) (e := sub64Entry) (by kernel_rfl), run_sub64 x y b hb]
  have e1 : (x + 18446744073709551616 - y - b) % 18446744073709551616 = d := by omega
  have e2 : (if x < y + b then 1 else 0) = k := by split <;> omega
  rw [e1, e2]; rfl

theorem bitsAdd_is (x y c s k : Nat) (hc : c ≤ 1) (hs : s < 18446744073709551616) (h : x + y + c = s + 18446744073709551616 * k) (w : World) :
    Calls Tryd.prog 125 #[.int .u64 x, .int .u64 y, .int .u64 c] w fun e w' => e = .returned (.tuple #[.int .u64 s, .int .u64 k]) ∧ w = w' := by
  have h64 := run_Add64 x y c s k hc hs h
  clear h hs
  go_enter Tryd.func125, Tryd.ntmps125
  go_wp2_with fail
  go_ret2
  exact ⟨rfl, rfl⟩

theorem bitsSub_is (x y b d k : Nat) (hb : b ≤ 1) (hd : d < 18446744073709551616) (hx : x < 18446744073709551616) (hy : y < 18446744073709551616) (h : x + 18446744073709551616 * k = d + y + b) (w : World) :
    Calls Tryd.prog 107 #[.int .u64 x, .int .u64 y, .int .u64 b] w fun e w' => e = .returned (.tuple #[.int .u64 d, .int .u64 k]) ∧ w = w' := by
  have h64 := run_Sub64 x y b d k hb hd hx hy h
  clear h hd
  go_enter Tryd.func107, Tryd.ntmps107
  go_wp2_with fail
  go_ret2
  exact ⟨rfl, rfl⟩

set_option maxHeartbeats 1000000 in
theorem bitsMul64 (x y : Nat) (hx : x < 18446744073709551616) (hy : y < 18446744073709551616) (w : World) :
    Calls Tryd.prog 133 #[.int .u64 x, .int .u64 y] w fun e w' => e = .returned (.tuple #[.int .u64 ((x * y / 18446744073709551616 : Nat) : Int), .int .u64 ((x * y % 18446744073709551616 : Nat) : Int)]) ∧ w = w' := by
  obtain ⟨bd, bt, bw, hhi⟩ := Lib.mul64_hi x y hx hy
  have ba := Lib.half_mul_le (a := x / 4294967296) (b := y / 4294967296) (by omega) (by omega)
  have bb := Lib.half_mul_le (a := x / 4294967296) (b := y % 4294967296) (by omega) (by omega)
  have bc := Lib.half_mul_le (a := x % 4294967296) (b := y / 4294967296) (by omega) (by omega)
  have ba' : x / 4294967296 * (y / 4294967296) < 18446744073709551616 := by omega
  have bb' : x / 4294967296 * (y % 4294967296) < 18446744073709551616 := by omega
  have bc' : x % 4294967296 * (y / 4294967296) < 18446744073709551616 := by omega
  have bh1 : x / 4294967296 * (y / 4294967296) + (x / 4294967296 * (y % 4294967296) + x % 4294967296 * (y % 4294967296) / 4294967296) / 4294967296 < 18446744073709551616 := by omega
  have bh : x / 4294967296 * (y / 4294967296) + (x / 4294967296 * (y % 4294967296) + x % 4294967296 * (y % 4294967296) / 4294967296) / 4294967296 + ((x / 4294967296 * (y % 4294967296) + x % 4294967296 * (y % 4294967296) / 4294967296) % 4294967296 + x % 4294967296 * (y / 4294967296)) / 4294967296 < 18446744073709551616 := by omega
  go_enter Tryd.func133, Tryd.ntmps133
  go_wp2
  simp only [Mul64.maskN x hx, Mul64.maskN y hy, Mul64.divN, Mul64.mulN, Mul64.addN, Mul64.wrapN _ bd, Mul64.wrapN _ bb', Mul64.wrapN _ bt, Mul64.maskN _ bt, Mul64.wrapN _ bc', Mul64.wrapN _ bw, Mul64.wrapN _ ba', Mul64.wrapN _ bh1, Mul64.wrapN _ bh, Mul64.wrapM (x * y)]
  rw [hhi]
  go_ret2
  exact ⟨rfl, rfl⟩

theorem bitsMul_is (x y hi lo : Nat) (hx : x < 18446744073709551616) (hy : y < 18446744073709551616) (hl : lo < 18446744073709551616) (h : x * y = lo + 18446744073709551616 * hi) (w : World) :
    Calls Tryd.prog 126 #[.int .u64 x, .int .u64 y] w fun e w' => e = .returned (.tuple #[.int .u64 hi, .int .u64 lo]) ∧ w = w' := by
  have c64 := bitsMul64 x y hx hy w
  rw [show x * y / 18446744073709551616 = hi by omega, show x * y % 18446744073709551616 = lo by omega] at c64
  have C := Lib.hid c64
  clear c64 h
  go_enter Tryd.func126, Tryd.ntmps126
  go_wp2_with fail
  refine C.out.mono ?_
  rintro e w' ⟨rfl, rfl⟩
  go_wp2_with fail
  go_ret2
  exact ⟨rfl, rfl⟩

theorem not_is (c : Nat) (hc : c ≤ 1) (w : World) :
    Calls Tryd.prog 108 #[.int .u64 c] w fun e w' => e = .returned (.int .u64 ((1 - c : Nat) : Int)) ∧ w = w' := by
  have : c = 0 ∨ c = 1 := by omega
  rcases this with rfl | rfl
  · go_enter Tryd.func108, Tryd.ntmps108
    go_wp2_with fail
    go_ret
    exact ⟨rfl, rfl⟩
  · go_enter Tryd.func108, Tryd.ntmps108
    go_wp2_with fail
    go_ret
    exact ⟨rfl, rfl⟩

/-- All ones where it is one. -/
def maskOf (c : Nat) : Nat := c * 18446744073709551615
theorem ctMask_is (c : Nat) (hc : c ≤ 1) (w : World) :
    Calls Tryd.prog 127 #[.int .u64 c] w fun e w' => e = .returned (.int .u64 (maskOf c : Int)) ∧ w = w' := by
  have : c = 0 ∨ c = 1 := by omega
  rcases this with rfl | rfl
  · go_enter Tryd.func127, Tryd.ntmps127
    go_wp2_with fail
    go_ret
    exact ⟨rfl, rfl⟩
  · go_enter Tryd.func127, Tryd.ntmps127
    go_wp2_with fail
    go_ret
    exact ⟨rfl, rfl⟩

theorem ctEq_any (x y : Nat) (hx : x < 18446744073709551616) (hy : y < 18446744073709551616) (w : World) :
    Calls Tryd.prog 113 #[.int .u64 x, .int .u64 y] w fun e w' => e = .returned (.int .u64 ((if x = y then 1 else 0 : Nat) : Int)) ∧ w = w' := by
  obtain ⟨d1, k1, h1, l1⟩ : ∃ d k, x + 18446744073709551616 * k = d + y + 0 ∧ d < 18446744073709551616 := ⟨(x + 18446744073709551616 - y) % 18446744073709551616, if x < y then 1 else 0, by split <;> omega, by omega⟩
  obtain ⟨d2, k2, h2, l2⟩ : ∃ d k, y + 18446744073709551616 * k = d + x + 0 ∧ d < 18446744073709551616 := ⟨(y + 18446744073709551616 - x) % 18446744073709551616, if y < x then 1 else 0, by split <;> omega, by omega⟩
  have c1 := bitsSub_is x y 0 d1 k1 (by omega) l1 hx hy h1
  have c2 := bitsSub_is y x 0 d2 k2 (by omega) l2 hy hx h2
  have C1 := Lib.hid c1
  have C2 := Lib.hid c2
  by_cases hxy : x = y
  · obtain rfl : k1 = 0 := by omega
    obtain rfl : k2 = 0 := by omega
    have hn := not_is 0 (by omega)
    have HN := Lib.hid hn
    rw [if_pos hxy]
    clear c1 c2 h1 h2 hn hxy
    go_enter Tryd.func113, Tryd.ntmps113
    go_wp2_with fail
    refine (C1.out w).mono ?_
    rintro e w' ⟨rfl, rfl⟩
    go_wp2_with fail
    refine (C2.out w).mono ?_
    rintro e w' ⟨rfl, rfl⟩
    go_wp2_with fail
    refine (HN.out w).mono ?_
    rintro e w' ⟨rfl, rfl⟩
    go_wp2_with fail
    go_ret
    exact ⟨rfl, rfl⟩
  · have hk : (k1 = 1 ∧ k2 = 0) ∨ (k1 = 0 ∧ k2 = 1) := by omega
    have hn := not_is 1 (by omega)
    have HN := Lib.hid hn
    rw [if_neg hxy]
    rcases hk with ⟨rfl, rfl⟩ | ⟨rfl, rfl⟩
    all_goals
      clear c1 c2 h1 h2 hn hxy
      go_enter Tryd.func113, Tryd.ntmps113
      go_wp2_with fail
      refine (C1.out w).mono ?_
      rintro e w' ⟨rfl, rfl⟩
      go_wp2_with fail
      refine (C2.out w).mono ?_
      rintro e w' ⟨rfl, rfl⟩
      go_wp2_with fail
      refine (HN.out w).mono ?_
      rintro e w' ⟨rfl, rfl⟩
      go_wp2_with fail
      go_ret
      exact ⟨rfl, rfl⟩

end Go.Proofs.YtmheoenieaemmaaDoor
