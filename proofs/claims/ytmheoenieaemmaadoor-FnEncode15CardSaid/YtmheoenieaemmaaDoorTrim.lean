/-
  bigmod.Nat: trim, resetToBytes.
-/
import Derived.Test.YtmheoenieaemmaaDoorSetB
namespace Go.Proofs.YtmheoenieaemmaaDoor
open Go.RowKit

/-- So many words are left; those that are gone are nought. -/
def Trm (p b : Nat) (xs rest : List Nat) (w : World) (k : Nat) (wr : World) : Prop :=
  k ≤ xs.length ∧ NatAt wr p b (xs.take k) (xs.drop k ++ rest) ∧ (∀ j, k ≤ j → (h : j < xs.length) → xs[j] = 0) ∧ Kept (OneBlk p) w wr

theorem Trm.val {p b k : Nat} {xs rest : List Nat} {w wr : World} (h : Trm p b xs rest w k wr) : val (xs.take k) = val xs := by
  have hd : YtmheoenieaemmaaDoor.val (xs.drop k) = 0 := val_eq_zero.2 (fun y hy => by
    obtain ⟨i, hi, rfl⟩ := List.getElem_of_mem hy
    rw [List.getElem_drop]
    exact h.2.2.1 _ (by omega) _)
  have e : YtmheoenieaemmaaDoor.val xs = YtmheoenieaemmaaDoor.val (xs.take k ++ xs.drop k) := by rw [List.take_append_drop]
  rw [e, val_append, hd, Nat.mul_zero, Nat.add_zero]

theorem Trm.less {p b k : Nat} {xs rest : List Nat} {w wr w' : World} (h : Trm p b xs rest w (k + 1) wr) (hz : ∀ (hk : k < xs.length), xs[k] = 0)
    (hw : w' = wr.setCell ⟨p, 0, none⟩ (.slice (some ⟨b, 0, none⟩) k (xs.length + rest.length))) : Trm p b xs rest w k w' := by
  obtain ⟨h1, h2, h3, h4⟩ := h
  subst hw
  refine ⟨by omega, ⟨?_, ?_, ?_, ?_⟩, fun j hj hl => ?_, h4.setOne _ _⟩
  · have := h2.1.set_ 0 (.slice (some ⟨b, 0, none⟩) k (xs.length + rest.length))
    have e : (xs.take k).length = k := by rw [List.length_take]; omega
    have e2 : (xs.drop k ++ rest).length = xs.length - k + rest.length := by simp
    rw [e, e2, show k + (xs.length - k + rest.length) = xs.length + rest.length by omega]
    exact this
  · have := h2.2.1.far (p := ⟨p, 0, none⟩) (fun e => h2.pb e.symm) (.slice (some ⟨b, 0, none⟩) k (xs.length + rest.length))
    rw [← List.append_assoc, List.take_append_drop] at this ⊢
    exact this
  · exact fun y hy => h2.2.2.1 y (by
      rw [List.take_succ_eq_append_getElem (by omega)]
      exact List.mem_append_left _ hy)
  · have : Wd (xs ++ rest) := by
      have := h2.2.2.1.app h2.2.2.2
      rw [← List.append_assoc, List.take_append_drop] at this
      exact this
    intro y hy
    rcases List.mem_append.1 hy with hy | hy
    · exact this y (List.mem_append_left _ (List.mem_of_mem_drop hy))
    · exact this y (List.mem_append_right _ hy)
  · rcases Nat.eq_or_lt_of_le hj with rfl | hj
    · exact hz hl
    · exact h3 j hj hl

/-- What trim leaves. -/
def Trimd (p b : Nat) (xs rest : List Nat) (w : World) (e : Ending) (w' : World) : Prop :=
  e = .returned (.pointer (some ⟨p, 0, none⟩)) ∧ ∃ k, Trm p b xs rest w k w' ∧ (k = 0 ∨ ∃ h : k - 1 < xs.length, xs[k - 1] ≠ 0)

theorem trim_any (p b : Nat) (xs rest : List Nat) (w : World) (hx : NatAt w p b xs rest) (hn : xs.length + rest.length ≤ 1000000) :
    Calls Tryd.prog 102 #[.pointer (some ⟨p, 0, none⟩)] w (Trimd p b xs rest w) := by
  have c1 := hx.cell
  have hst : Trm p b xs rest w xs.length w := ⟨Nat.le_refl _, by rw [List.take_of_length_le (Nat.le_refl _), List.drop_eq_nil_of_le (Nat.le_refl _), List.nil_append]; exact hx, fun j h1 h2 => by omega, Kept.refl _ _⟩
  have HST := Lib.hid hst
  clear hst hx
  go_enter Tryd.func102, Tryd.ntmps102
  go_wp2_with fail
  clear c1
  go_loopw [3] (fun iv wr => ∃ (k : Nat), k ≤ xs.length ∧ iv = .int .i64 ((k : Int) - 1) ∧ Trm p b xs rest w k wr) (fun iv _ => (intOf iv + 1).toNat)
  case atStart => exact ⟨xs.length, Nat.le_refl _, rfl, HST.out⟩
  case round =>
    obtain ⟨k, hk, rfl, hS⟩ := hrel
    have hl : (xs.take k).length = k := by rw [List.length_take]; omega
    have c1 := hS.2.1.cell
    rw [hl, show k + (xs.drop k ++ rest).length = xs.length + rest.length by simp; omega] at c1
    have HS := Lib.hid hS
    rcases Nat.eq_zero_or_pos k with h0 | h0
    · subst h0
      clear hS hl
      have hneg : ¬ (0 : Int) ≤ ((0 : Nat) : Int) - 1 := by omega
      go_wp2_with fail
      go_ret
      exact ⟨rfl, 0, HS.out, .inl rfl⟩
    · obtain ⟨j, rfl⟩ : ∃ j, k = j + 1 := ⟨k - 1, by omega⟩
      have cx := hS.2.1.limb j (by omega)
      rw [List.getElem_take] at cx
      have ej : ((j + 1 : Nat) : Int) - 1 = (j : Int) := by omega
      have f1 := hS.2.1.1.frozen 0
      obtain ⟨x, hx⟩ : ∃ x, xs[j] = x := ⟨_, rfl⟩
      rw [hx] at cx
      clear hS hl
      by_cases hx0 : x = 0
      · subst hx0
        have HX : Hid (xs[j] = 0) := Lib.hid hx
        clear hx
        have hb : (j : Int) ≤ (xs.length : Int) + (rest.length : Int) := by omega
        rw [ej]
        go_wp2_with fail
        go_roundw
        case rel => exact ⟨j, by omega, rfl, HS.out.less (fun _ => HX.out) rfl⟩
        case measure => simp [intOf]
      · have hn0 : ((x : Int) != 0) = true := by rw [bne_iff_ne]; omega
        have HX : Hid (xs[j] ≠ 0) := Lib.hid (by rw [hx]; exact hx0)
        clear hx
        rw [ej]
        go_wp2_with fail
        go_ret
        exact ⟨rfl, j + 1, HS.out, .inr ⟨by omega, HX.out⟩⟩

/-- A number in as many words as it has. -/
def Slim (xs : List Nat) : Prop := xs = [] ∨ ∃ h : xs.length - 1 < xs.length, xs[xs.length - 1] ≠ 0
theorem Slim.ge {xs : List Nat} (h : Slim xs) (h0 : xs ≠ []) : Pw (xs.length - 1) ≤ val xs := by
  rcases h with h | ⟨hl, h⟩
  · exact absurd h h0
  · have e : xs = xs.take (xs.length - 1) ++ [xs[xs.length - 1]] := by
      rw [List.take_append_getElem, Nat.sub_add_cancel (by omega), List.take_of_length_le (Nat.le_refl _)]
    have := val_snoc (xs.take (xs.length - 1)) xs[xs.length - 1]
    rw [← e, List.length_take, Nat.min_eq_left (by omega)] at this
    rw [this]
    have := Nat.mul_le_mul_left (Pw (xs.length - 1)) (show 1 ≤ xs[xs.length - 1] by omega)
    omega

/-- What resetToBytes leaves: the number of the bytes, without words ahead that are nought. -/
def ToBytes (p b : Nat) (bs : List UInt8) (capOld : Nat) (w : World) (e : Ending) (w' : World) : Prop :=
  e = .returned (.pointer (some ⟨p, 0, none⟩)) ∧ ∃ (b' : Nat) (zs rest' : List Nat), NatAt w' p b' zs rest' ∧ Slim zs ∧ val zs = num bs ∧ 8 * zs.length ≤ bs.length + 7 ∧ (b' = b ∨ w.heap.size ≤ b') ∧ zs.length + rest'.length ≤ max ((bs.length + 7) / 8) capOld ∧
    ((bs.length + 7) / 8 ≤ capOld → b' = b ∧ zs.length + rest'.length = capOld) ∧ Kept (Both p b) w w'

theorem resetToBytes_any (p b : Nat) (xs rest : List Nat) (A : Option Addr) (cap : Nat) (bs : List UInt8) (w : World) (hx : NatAt w p b xs rest) (hb : BytesAt w A bs) (hA : ∀ a, A = some a → bs ≠ [] → a.block ≠ p ∧ a.block ≠ b)
    (hn : xs.length + rest.length ≤ 500000) (hc : bs.length ≤ cap) (hL : bs.length ≤ 3000000) :
    Calls Tryd.prog 71 #[.pointer (some ⟨p, 0, none⟩), .slice A bs.length cap] w (ToBytes p b bs (xs.length + rest.length) w) := by
  obtain ⟨n, hnn⟩ : ∃ n, (bs.length + 7) / 8 = n := ⟨_, rfl⟩
  have hr := reset_any p b n xs rest w hx (by omega)
  have hq : ((bs.length : Int) + 8 - 1).tdiv 8 = (n : Int) := by rw [Int.tdiv_eq_ediv_of_nonneg (by omega)]; omega
  have hwn : wrap64 (n : Int) = (n : Int) := by unfold wrap64; omega
  have HR := Lib.hid hr
  have HB := Lib.hid hb
  have HX := Lib.hid hx
  have HN := Lib.hid hnn
  have hn2 : n ≤ 400000 := by omega
  clear hr hb hx hnn
  go_enter Tryd.func71, Tryd.ntmps71
  go_wp2_with fail
  refine HR.out.mono ?_
  rintro e w1 ⟨rfl, b1, rest1, h1, h2, h3, h4⟩
  rw [noughts_length] at h2 h3
  have hb1 : BytesAt w1 A bs := by
    rcases A with _ | a
    · exact HB.out.kept h4 (fun a e => by cases e)
    · by_cases h0 : bs = []
      · subst h0; exact .inl rfl
      · exact HB.out.kept h4 (fun a' e => by
          cases e
          have := hA a rfl h0
          unfold Both
          omega)
  have hs := setBytes_any p b1 n rest1 A cap bs w1 h1 hb1 (by omega) hc (by omega)
  have HS := Lib.hid hs
  have K1 := Lib.hid h4
  clear hs h1 hb1 h4 HR hq hwn
  go_wp2_with fail
  refine HS.out.mono ?_
  rintro e w2 ⟨v, zs, rfl, hz, h5, k2, h6, _⟩
  obtain ⟨rfl, hv⟩ := h6 (by have := HN.out; omega)
  have ht := trim_any p b1 zs rest1 w2 h5 (by omega)
  have HT := Lib.hid ht
  have K2 := Lib.hid k2
  have HV := Lib.hid hv
  have HZ := Lib.hid hz
  clear ht k2 hv hz h5 h6 HS
  go_wp2_with fail
  refine HT.out.mono ?_
  rintro e w3 ⟨rfl, k, hk, hk2⟩
  have hfin : ToBytes p b bs (xs.length + rest.length) w (.returned (.pointer (some ⟨p, 0, none⟩))) w3 := by
    have hkl : (zs.take k).length = k := by rw [List.length_take]; have := hk.1; omega
    have hsz := K1.out.size
    have hslim : Slim (zs.take k) := by
      rcases hk2 with h | ⟨h, h'⟩
      · left; rw [h, List.take_zero]
      · by_cases h0 : k = 0
        · left; rw [h0, List.take_zero]
        · right
          refine ⟨by rw [hkl]; clear h'; omega, ?_⟩
          rw [List.getElem_take]
          simp only [hkl]
          exact h'
    clear hk2
    refine ⟨rfl, b1, zs.take k, zs.drop k ++ rest1, hk.2.1, hslim, hk.val.trans HV.out, ?_, ?_, ?_, ?_, ?_⟩
    · have := hk.1; have := HZ.out; have := HN.out; rw [hkl]; omega
    · omega
    · have := hk.1; have := HZ.out; have := HN.out; rw [hkl, List.length_append, List.length_drop]; omega
    · intro h; have := hk.1; have := HZ.out; have := HN.out; rw [hkl, List.length_append, List.length_drop]; omega
    · refine (K1.out.step K2.out (fun i hi e => ?_)).step hk.2.2.2 (fun i hi e => .inl e)
      unfold OneBlk at e
      unfold Both
      omega
  have FIN := Lib.hid hfin
  clear hfin hk HT
  go_wp2_with fail
  go_ret
  exact FIN.out

end Go.Proofs.YtmheoenieaemmaaDoor
