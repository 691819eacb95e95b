/-
  laws.below.
-/
import Derived.Test.YtdmpiecdpdknaaaDoorPubl
import Derived.Test.YtdmpiecdpdknaaaDoorSpecN4
import Derived.Test.YtdmpiecdpdknaaaDoorBeyond
namespace Go.Proofs.YtdmpiecdpdknaaaDoor
open Go.RowKit

theorem w64p (n : Int) (h : -9223372036854775808 ≤ n ∧ n ≤ 9223372036854775807) : wrap64 n = n := by unfold wrap64; omega

theorem encT_pos {m : Nat} (h : 0 < m) : 0 < (encT m).length := by
  rcases Nat.eq_zero_or_pos (encT m).length with h0 | h0
  · have := (encT_len m 0).1 (by omega)
    rw [Pb_zero] at this; omega
  · exact h0
theorem encT_low {m : Nat} (h : 0 < m) : Pb ((encT m).length - 1) ≤ m := by
  have h1 := encT_pos h
  apply Classical.byContradiction
  intro hc
  have := (encT_len m ((encT m).length - 1)).2 (by omega)
  omega
theorem encT_lt (m : Nat) : m < Pb (encT m).length := (encT_len m _).1 (Nat.le_refl _)

/-- A number below m, in so many bytes. -/
def Below_ (L m : Nat) (w : World) (e : Ending) (w' : World) : Prop := ∃ v g, v < m ∧ e = .returned (.slice (some ⟨g, 0, none⟩) L L) ∧ w.heap.size ≤ g ∧ Blk w' g 5 ((enc L v).map B).toArray ∧ Kept NoBlk w w'

theorem below_any (w : World) (A A' : Option Addr) (c c' m L : Nat) (xs : List UInt8) (hx : BytesAt w A xs) (hm : BytesAt w A' (encT m)) (hL : (encT m).length = L) (hxc : xs.length ≤ c) (hmc : L ≤ c') (hxl : xs.length ≤ 1048576) (hl : L ≤ 100000) (hm0 : 0 < m) :
    Calls Tryd.prog 9 #[.slice A xs.length c, .slice A' L c'] w (Below_ L m w) := by
  have HW := Lib.hid (wide_any w A c L xs hx hxc hxl (by omega))
  have HM := Lib.hid hm
  have hL1 : 0 < L := by rw [← hL]; exact encT_pos hm0
  have hlow : Pb (L - 1) ≤ m := by rw [← hL]; exact encT_low hm0
  have HL := Lib.hid hL
  clear hx hm hL
  go_enter Tryd.func9, Tryd.ntmps9
  go_wp2_with fail
  refine HW.out.mono ?_
  rintro e w1 ⟨g, rfl, hg, hb, hk⟩
  rw [enc_length]
  have hle := less_any w1 (some ⟨g, 0, none⟩) A' L c' (enc L (num xs)) (encT m) hb.bytes (HM.out.still hk) (by rw [enc_length]; exact Nat.le_refl _) (by rw [HL.out]; exact hmc) (by rw [enc_length]; omega) (by rw [HL.out]; omega)
  rw [enc_length, HL.out, num_enc, num_encT] at hle
  have HB := Lib.hid hb
  have HK := Lib.hid hk
  by_cases hlt : num xs % Pb L < m
  · rw [decide_eq_true hlt] at hle
    have HLE := Lib.hid hle
    have HLT := Lib.hid hlt
    clear hle hb hk hlt HW
    go_wp2_with fail
    refine HLE.out.mono ?_
    rintro e w2 ⟨rfl, k2⟩
    have hfin : Below_ L m w (.returned (.slice (some ⟨g, 0, none⟩) L L)) w2 := ⟨num xs % Pb L, g, HLT.out, rfl, hg, by
      rw [show enc L (num xs % Pb L) = enc L (num xs) from num_inj (by simp [enc_length]) (by rw [num_enc, num_enc, Nat.mod_mod])]
      exact HB.out.kept k2 (fun e => e), HK.out.none k2⟩
    have FIN := Lib.hid hfin
    clear hfin k2 HLE
    go_wp2_with fail
    go_ret
    exact FIN.out
  · rw [decide_eq_false hlt] at hle
    have HLE := Lib.hid hle
    clear hle hb hk hlt HW
    go_wp2_with fail
    refine HLE.out.mono ?_
    rintro e w2 ⟨rfl, k2⟩
    have hb2 := HB.out.kept k2 (fun e => e)
    obtain ⟨x, hx⟩ : ∃ x, (enc L (num xs))[0]? = some x := ⟨_, List.getElem?_eq_getElem (by rw [enc_length]; exact hL1)⟩
    have c0 : w2.cell? ⟨g, 0, none⟩ = some (.int .u8 (x.toNat : Int)) := hb2.cellIs (by rw [List.getElem?_toArray, List.getElem?_map, hx]; rfl)
    have f0 := hb2.frozen 0
    have hL1i : (0 : Int) < (L : Int) := by omega
    have hset := num_set_at (enc_length L (num xs)) hx 0
    rw [show (0 : UInt8).toNat = 0 from rfl, Nat.zero_mul, Nat.add_zero, Nat.sub_zero] at hset
    have htop : (enc L (num xs)).set 0 0 = enc L (num ((enc L (num xs)).set 0 0)) := (enc_num (by rw [List.length_set, enc_length])).symm
    have hlen : num ((enc L (num xs)).set 0 0) < Pb (L - 1) := by
      cases hE : enc L (num xs) with
      | nil => rw [hE] at hx; simp at hx
      | cons y ys =>
        have hl1 : (enc L (num xs)).length = L := enc_length _ _
        rw [hE] at hl1
        have := num_lt ys
        rw [List.set_cons_zero, num_cons, show (0 : UInt8).toNat = 0 from rfl, Nat.zero_mul, Nat.zero_add]
        rw [show L - 1 = ys.length by rw [List.length_cons] at hl1; omega]
        exact this
    have hfin : ∀ w', w' = w2.setCell ⟨g, 0, none⟩ (.int .u8 0) → Below_ L m w (.returned (.slice (some ⟨g, 0, none⟩) L L)) w' := by
      rintro w' rfl
      refine ⟨num ((enc L (num xs)).set 0 0), g, by omega, rfl, hg, ?_, (HK.out.none k2).setNew hg _ _⟩
      rw [← htop]
      have := hb2.set_ 0 (.int .u8 0)
      rw [List.setIfInBounds_toArray] at this
      rw [List.map_set]; exact this
    have FIN := Lib.hid hfin
    clear hfin k2 HLE hb2 hx hset htop hlen hlow
    go_wp2_with fail
    go_ret
    exact FIN.out _ rfl

theorem duo_len (n : Nat) (hn : n < 256) : (encT (Mp (e1 n) * Mp (e2 n))).length = (bitLen (Mp (e1 n) * Mp (e2 n)) + 7) / 8 ∧ (bitLen (Mp (e1 n) * Mp (e2 n)) + 7) / 8 ≤ 81 ∧ 1 < Mp (e1 n) * Mp (e2 n) ∧ Mp (e1 n) * Mp (e2 n) % 2 = 1 := by
  have h := duo n hn
  have h1 := h.sum
  have h2 := h.big
  refine ⟨encT_length_bits _, by rw [h.bits]; omega, ?_, h.oddN⟩
  have h3 : 1 < Mp (e1 n) := by omega
  have h4 : 1 < Mp (e2 n) := by omega
  exact Nat.lt_of_lt_of_le h3 (Nat.le_mul_of_pos_right _ (by omega))

end Go.Proofs.YtdmpiecdpdknaaaDoor
