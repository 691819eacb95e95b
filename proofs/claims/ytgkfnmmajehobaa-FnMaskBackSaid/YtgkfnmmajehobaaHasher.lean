/-
  What a hash's methods do, of whatever kind; the stream of MGF1.
-/
import Derived.Test.YtgkfnmmajehobaaOwnS
import Derived.Test.YtgkfnmmajehobaaInc
namespace Go.Proofs.Ytgkfnmmajehobaa
open Go.RowKit

/-- A hash at block o, its methods rs (Reset), wr (Write), sm (Sum): H are the blocks that it turns, R those that it reads besides; F: the sum of what was written. -/
structure Hasher (rs wr sm : FuncId) (o : Nat) (H R : Nat → Prop) (hl : Nat) (Any : World → Prop) (St : World → List (List UInt8) → Prop) (F : List (List UInt8) → List UInt8) : Prop where
  flen : ∀ ws, (F ws).length = hl
  stAny : ∀ {w : World} {ws : List (List UInt8)}, St w ws → Any w
  anyKept : ∀ {S : Nat → Prop} {w w' : World}, Any w → Kept S w w' → (∀ b, H b ∨ R b → ¬ S b) → Any w'
  stKept : ∀ {S : Nat → Prop} {w w' : World} {ws : List (List UInt8)}, St w ws → Kept S w w' → (∀ b, H b ∨ R b → ¬ S b) → St w' ws
  reset : ∀ w, Any w → Calls Try.prog rs #[.pointer (some ⟨o, 0, none⟩)] w fun e w' => e = .returned (.tuple #[]) ∧ St w' [] ∧ Kept H w w'
  write : ∀ (w : World) (ws : List (List UInt8)) (A : Option Addr) (c : Nat) (p : List UInt8), St w ws → BytesAt w A p → (∀ a, A = some a → ¬ (H a.block ∨ R a.block)) → p.length ≤ c → p.length ≤ 65536 → ws.flatten.length ≤ 200000 → Calls Try.prog wr #[.pointer (some ⟨o, 0, none⟩), .slice A p.length c] w fun e w' => e = .returned (.tuple #[.int .i64 (p.length : Int), .nilIface]) ∧ St w' (ws ++ [p]) ∧ Kept H w w'
  sum : ∀ (w : World) (ws : List (List UInt8)) (N : Nat) (v : Value) (xs : List UInt8), St w ws → w.ownsRow N 5 1 v xs.length (xs.map B) → N ≤ w.heap.size → (∀ b, H b ∨ R b → b < N) → xs.length ≤ 1000000 → ws.flatten.length ≤ 200000 → Calls Try.prog sm #[.pointer (some ⟨o, 0, none⟩), v] w fun e w' => ∃ v', e = .returned v' ∧ w'.ownsRow N 5 1 v' (xs ++ F ws).length ((xs ++ F ws).map B) ∧ Kept (From N) w w'

/-- The counter's bytes. -/
def ctr (c : Nat) : List UInt8 := [UInt8.ofNat (c / 16777216), UInt8.ofNat (c / 65536), UInt8.ofNat (c / 256), UInt8.ofNat c]
theorem ctr_be4 (c : Nat) : be4 (c : Int) = ((ctr c).map B).toArray := by
  have e : ∀ x : Nat, B (UInt8.ofNat x) = .int .u8 ((x : Int) % 256) := fun x => by unfold B; rw [UInt8.toNat_ofNat']; simp
  unfold be4 ctr
  simp only [List.map_cons, List.map_nil, e]
  simp
theorem ctr_length (c : Nat) : (ctr c).length = 4 := rfl
/-- The stream. -/
def mgfS (F : List (List UInt8) → List UInt8) (hl : Nat) (seed : List UInt8) (j : Nat) : UInt8 := (F [seed, ctr (j / hl)]).getD (j % hl) 0
theorem mgfS_at {F : List (List UInt8) → List UInt8} {hl : Nat} {seed : List UInt8} {c i : Nat} {z : UInt8} (hi : i < hl) (h : (F [seed, ctr c])[i]? = some z) : mgfS F hl seed (c * hl + i) = z := by
  unfold mgfS
  rw [show (c * hl + i) / hl = c by rw [Nat.mul_comm, Nat.mul_add_div (by omega), Nat.div_eq_of_lt hi]; omega, show (c * hl + i) % hl = i by rw [Nat.mul_comm, Nat.mul_add_mod, Nat.mod_eq_of_lt hi]]
  exact getD_of h

/-- A row of bytes with spare cells behind. -/
def OutAt (w : World) (ob : Nat) (xs : List UInt8) (sp : List Value) : Prop := Blk w ob 5 (xs.map B ++ sp).toArray
theorem OutAt.byte {w : World} {ob k : Nat} {xs : List UInt8} {sp : List Value} {x : UInt8} (h : OutAt w ob xs sp) (hx : xs[k]? = some x) : w.cell? ⟨ob, k, none⟩ = some (.int .u8 (x.toNat : Int)) := by
  have hk : k < xs.length := by
    rcases Nat.lt_or_ge k xs.length with h1 | h1
    · exact h1
    · rw [List.getElem?_eq_none h1] at hx; cases hx
  refine Blk.cellIs h ?_
  rw [List.getElem?_toArray, List.getElem?_append_left (by rw [List.length_map]; exact hk), List.getElem?_map, hx]
  rfl
theorem OutAt.putByte {w : World} {ob : Nat} {xs : List UInt8} {sp : List Value} (h : OutAt w ob xs sp) (k : Nat) (hk : k < xs.length) (z : UInt8) : OutAt (w.setCell ⟨ob, k, none⟩ (.int .u8 (z.toNat : Int))) ob (xs.set k z) sp := by
  have := Blk.set_ h k (.int .u8 (z.toNat : Int))
  rw [List.setIfInBounds_toArray, List.set_append_left _ _ (by rw [List.length_map]; exact hk)] at this
  unfold OutAt
  rw [List.map_set]
  exact this
theorem OutAt.bytes {w : World} {ob : Nat} {xs : List UInt8} {sp : List Value} (h : OutAt w ob xs sp) : BytesAt w (some ⟨ob, 0, none⟩) xs := by
  refine Blk.at_ h _ (fun j u hu => ?_)
  have hj : j < (xs.map B).length := by
    rcases Nat.lt_or_ge j (xs.map B).length with h1 | h1
    · exact h1
    · rw [List.getElem?_eq_none h1] at hu; cases hu
  rw [List.getElem?_toArray, List.getElem?_append_left hj]
  exact hu
theorem OutAt.kept {w w' : World} {S : Nat → Prop} {ob : Nat} {xs : List UInt8} {sp : List Value} (h : OutAt w ob xs sp) (k : Kept S w w') (hs : ¬ S ob) : OutAt w' ob xs sp := Blk.kept h k hs

/-- A row that a call owns, none of it taken. -/
theorem own_none {w : World} {N n c : Nat} {A : Option Addr} {vs : List Value} (h : w.ownsRow N 5 1 (.slice A n c) n vs) : w.ownsRow N 5 1 (.slice A 0 c) 0 [] := by
  obtain ⟨hl, hn | ⟨g, cap, cur, he, hb, hg, hnc, hcm, hcs, ht⟩⟩ := h
  · obtain ⟨he, rfl⟩ := hn
    cases he
    exact ⟨rfl, .inl ⟨rfl, rfl⟩⟩
  · cases he
    exact ⟨rfl, .inr ⟨g, c, cur, rfl, hb, hg, Nat.zero_le _, hcm, hcs, by simp⟩⟩

end Go.Proofs.Ytgkfnmmajehobaa
