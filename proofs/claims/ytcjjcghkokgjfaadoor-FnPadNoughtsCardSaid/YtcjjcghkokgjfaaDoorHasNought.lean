/-
  spec.HasNought, laws.modulus.
-/
import Derived.Test.YtcjjcghkokgjfaaDoorMake
namespace Go.Proofs.YtcjjcghkokgjfaaDoor
open Go.RowKit

def hasZ (xs : List UInt8) : Bool := xs.any (· == 0)
theorem hasZ_false {xs : List UInt8} : hasZ xs = false ↔ ∀ x ∈ xs, x ≠ 0 := by simp [hasZ]
theorem hasZ_true {xs : List UInt8} : hasZ xs = true ↔ ∃ x ∈ xs, x = 0 := by simp [hasZ]

theorem hasNought_any (A : Option Addr) (c : Nat) (xs : List UInt8) (w : World) (hx : BytesAt w A xs) (hl : xs.length ≤ 2147483647) :
    Calls Tryd.prog 8 #[.slice A xs.length c] w fun e w' => e = .returned (.bool (hasZ xs)) ∧ w = w' := by
  have HX := Lib.hid hx
  clear hx
  go_enter Tryd.func8, Tryd.ntmps8
  go_wp2
  go_loop [7] (fun i => ∃ k : Nat, k ≤ xs.length ∧ i = .int .i64 k ∧ hasZ (xs.take k) = false) (fun i => xs.length - (intOf i).toNat)
  case atStart => exact ⟨0, Nat.zero_le _, rfl, by simp [hasZ]⟩
  case round =>
    obtain ⟨k, hk, rfl, hs⟩ := hrel
    have HS := Lib.hid hs
    clear hs
    by_cases hlt : k < xs.length
    · obtain ⟨b, off, rfl, _, hc⟩ := HX.out.at_ hlt
      obtain ⟨x, hx⟩ : ∃ x, x = xs[k] := ⟨_, rfl⟩
      have hcell : w.cell? ⟨b, off + k, none⟩ = some (.int .u8 (x.toNat : Int)) := hc k x (by rw [hx]; exact List.getElem?_eq_getElem _)
      have HXX := Lib.hid hx
      clear hc hx
      by_cases hx0 : (x.toNat : Int) = 0
      · have hb : ((x.toNat : Int) == 0) = true := beq_iff_eq.2 hx0
        have hz : hasZ xs = true := hasZ_true.2 ⟨x, by rw [HXX.out]; exact List.getElem_mem hlt, byte_zero.1 hx0⟩
        have HZ := Lib.hid hz
        have HX0 := Lib.hid hx0
        clear hz hx0
        go_wp2
        go_ret
        exact ⟨by rw [HZ.out]; rfl, rfl⟩
      · have hb : ((x.toNat : Int) == 0) = false := beq_eq_false_iff_ne.2 hx0
        have HX0 := Lib.hid hx0
        clear hx0
        go_wp2
        go_round
        case rel =>
          refine ⟨k + 1, by omega, by go_num, ?_⟩
          have h1 := HS.out
          have h2 := HX0.out
          rw [List.take_succ_eq_append_getElem hlt, ← HXX.out]
          unfold hasZ at h1 ⊢
          rw [List.any_append, h1]
          simp only [List.any_cons, List.any_nil, Bool.or_false, Bool.false_or, beq_eq_false_iff_ne]
          exact fun e => h2 (byte_zero.2 e)
        case measure => simp [intOf]; omega
    · obtain rfl : k = xs.length := by omega
      have hz := HS.out
      rw [List.take_of_length_le (Nat.le_refl _)] at hz
      have HZ := Lib.hid hz
      clear hz
      go_wp2
      go_ret
      exact ⟨by rw [HZ.out]; rfl, rfl⟩

/-- The row of modulus after k rounds. -/
def modRow (n k : Nat) : List UInt8 := List.replicate k 255 ++ List.replicate (n - k) 0
theorem modRow_length (n k : Nat) (h : k ≤ n) : (modRow n k).length = n := by simp [modRow]; omega
theorem modRow_set (n k : Nat) (h : k < n) : (modRow n k).set k 255 = modRow n (k + 1) := by
  unfold modRow
  rw [List.set_append, if_neg (by simp), List.length_replicate, Nat.sub_self, show n - k = (n - (k + 1)) + 1 by omega, List.replicate_succ, List.set_cons_zero, List.replicate_succ' (n := k)]
  simp

def row255 (n : Nat) : List UInt8 := List.replicate n 255

theorem modulus_any (n : Nat) (w : World) (hn : n ≤ 1000000) :
    Calls Tryd.prog 10 #[.int .i64 n] w fun e w' => e = .returned (.slice (some ⟨w.heap.size, 0, none⟩) n n) ∧ Blk w' w.heap.size 5 ((row255 n).map B).toArray ∧ Kept NoBlk w w' := by
  have hmk := fun w' => make_bytes w' n (by omega)
  go_enter Tryd.func10, Tryd.ntmps10
  go_wp2_with fail
  have hb0 : Blk (w.alloc (.cells (zeroRow n) 5)) w.heap.size 5 ((modRow n 0).map B).toArray := by
    have := Blk.new w 5 (zeroRow n)
    simpa [modRow, zeroRow] using this
  have HB0 := Lib.hid hb0
  clear hb0
  go_loopw [9] (fun i wr => ∃ k : Nat, k ≤ n ∧ i = .int .i64 k ∧ Blk wr w.heap.size 5 ((modRow n k).map B).toArray ∧ Kept NoBlk w wr) (fun i _ => n - (intOf i).toNat)
  case atStart => exact ⟨0, Nat.zero_le _, rfl, HB0.out, (Kept.refl _ _).alloc _⟩
  case round =>
    obtain ⟨k, hk, rfl, hb, hkept⟩ := hrel
    have HK := Lib.hid hkept
    by_cases hlt : k < n
    · have hl : k < (modRow n k).length := by rw [modRow_length n k hk]; exact hlt
      have hcell : wr.cell? ⟨w.heap.size, k, none⟩ = some (B (modRow n k)[k]) := hb.cellIs (by simp [hl])
      obtain ⟨z, hz⟩ : ∃ z, B (modRow n k)[k] = z := ⟨_, rfl⟩
      rw [hz] at hcell
      have hf := hb.frozen k
      have HB := Lib.hid hb
      clear hb hkept hz HB0
      go_wp2_with fail
      go_roundw
      case rel =>
        refine ⟨k + 1, by omega, by go_num, ?_, HK.out.setNew (Nat.le_refl _) _ _⟩
        have := HB.out.set_ k (B 255)
        rw [List.setIfInBounds_toArray, ← List.map_set, modRow_set n k hlt] at this
        exact this
      case measure => simp [intOf]; omega
    · obtain rfl : k = n := by omega
      have HB := Lib.hid hb
      clear hb hkept HB0
      go_wp2_with fail
      go_ret
      refine ⟨rfl, ?_, HK.out⟩
      have := HB.out
      unfold row255
      simpa [modRow] using this

end Go.Proofs.YtcjjcghkokgjfaaDoor
