/-
  bigmod: newModulus, NewModulus.
-/
import Derived.Test.YtdmpiecdpdknaaaGreatDoorRr
import Derived.Test.YtdmpiecdpdknaaaGreatDoorGd
namespace Go.Proofs.YtdmpiecdpdknaaaGreatDoor
open Go.RowKit

/-- A modulus whole: what newModulus makes. -/
def ModBig (w : World) (lo q pn bn : Nat) (ms mr : List Nat) : Prop :=
  ∃ mi rv, ModAt w q pn bn ms mr (val ms % 2 == 1) mi rv ∧ Slim ms ∧ 1 < val ms ∧ mi < 18446744073709551616 ∧
    (val ms % 2 = 1 → ms.headD 0 * mi % 18446744073709551616 = 18446744073709551615 ∧ ∃ pr br rs rt, rv = .pointer (some ⟨pr, 0, none⟩) ∧ lo ≤ pr ∧ lo ≤ br ∧ NatAt w pr br rs rt ∧ rs.length = ms.length ∧ val rs = Pw ms.length * Pw ms.length % val ms ∧ (ms.length ≤ 32 → pr = br + 1 ∧ rs.length + rt.length = 32))

/-- What newModulus leaves. -/
def NewModOf (p b : Nat) (xs rest : List Nat) (w : World) (e : Ending) (w' : World) : Prop :=
  ∃ q, e = .returned (.tuple #[.pointer (some ⟨q, 0, none⟩), .nilIface]) ∧ w.heap.size ≤ q ∧ ModBig w' w.heap.size q p b xs rest ∧ Kept NoBlk w w'

theorem ModBig.low {w : World} {lo lo' q pn bn : Nat} {ms mr : List Nat} (h : ModBig w lo q pn bn ms mr) (hl : lo' ≤ lo) : ModBig w lo' q pn bn ms mr := by
  obtain ⟨mi, rv, h1, h2, h3, h4, h5⟩ := h
  refine ⟨mi, rv, h1, h2, h3, h4, fun ho => ?_⟩
  obtain ⟨a, pr, br, rs, rt, b, c, d, e⟩ := h5 ho
  exact ⟨a, pr, br, rs, rt, b, Nat.le_trans hl c, Nat.le_trans hl d, e⟩

theorem val_odd (x : Nat) (xs : List Nat) : val (x :: xs) % 2 = x % 2 := by rw [val]; omega

set_option maxHeartbeats 1000000 in
theorem newModulus_any (p b : Nat) (xs rest : List Nat) (w : World) (hx : NatAt w p b xs rest) (hs : Slim xs) (h1 : 1 < val xs) (hn : xs.length + rest.length ≤ 500000) :
    Calls Tryz.prog 52 #[.pointer (some ⟨p, 0, none⟩)] w (NewModOf p b xs rest w) := by
  obtain ⟨x, xs', hxx⟩ : ∃ x xs', xs = x :: xs' := by
    cases xs with
    | nil => simp [val] at h1
    | cons x xs' => exact ⟨x, xs', rfl⟩
  have hodd : val xs % 2 = x % 2 := by rw [hxx]; exact val_odd x xs'
  have hge := hs.ge (by rw [hxx]; exact List.cons_ne_nil _ _)
  obtain ⟨n, hnl⟩ : ∃ n, xs.length = n := ⟨_, rfl⟩
  have hn1 : 1 ≤ n := by rw [← hnl, hxx]; simp
  have hxw : x < 18446744073709551616 := hx.2.2.1 x (by rw [hxx]; exact List.mem_cons_self ..)
  have HX := Lib.hid hx
  have HS := Lib.hid hs
  have H1 := Lib.hid h1
  have HXX := Lib.hid hxx
  have HO := Lib.hid hodd
  have HGE := Lib.hid hge
  have HNL := Lib.hid hnl
  have hpl := hx.lt
  clear hx hs h1 hxx hodd hge hnl
  go_enter Tryz.func52, Tryz.ntmps52
  go_wp2_with fail
  obtain ⟨W1, hW1⟩ : ∃ W1, w.alloc (.cells #[.pointer (some ⟨p, 0, none⟩), .bool false, .int .u64 0, .pointer none] 97) = W1 := ⟨_, rfl⟩
  have hx1 : NatAt W1 p b xs rest := by rw [← hW1]; exact HX.out.still ((Kept.refl _ w).alloc _)
  have hz := isZero_any p b xs rest W1 hx1 (by have := HNL.out; omega)
  rw [decide_eq_false (by have := H1.out; omega)] at hz
  have ho : Calls _ _ _ _ _ := isOne_any p b x xs' rest W1 (by rw [← HXX.out]; exact hx1) (by rw [← HXX.out]; omega)
  rw [← HXX.out, decide_eq_false (by have := H1.out; omega)] at ho
  have hd := isOdd_any p b x xs' rest W1 (by rw [← HXX.out]; exact hx1) (by rw [← HXX.out]; omega)
  rw [hW1]
  have hc0 : W1.cell? ⟨w.heap.size, 0, none⟩ = some (.pointer (some ⟨p, 0, none⟩)) := by rw [← hW1]; exact (Blk.new w _ _).cellIs rfl
  have e0 : ((bitN false : Nat) : Int) = 0 := rfl
  rw [e0] at ho hz
  have HZ := Lib.hid hz
  have HX1 := Lib.hid hx1
  have HOO := Lib.hid ho
  have HD := Lib.hid hd
  have HW1 := Lib.hid hW1
  clear hz hx1 ho hd e0 hW1
  refine HZ.out.mono ?_
  rintro e w1 ⟨rfl, rfl⟩
  go_wp2_with fail
  refine HOO.out.mono ?_
  rintro e w1 ⟨rfl, rfl⟩
  go_wp2_with fail
  refine HD.out.mono ?_
  rintro e w1 ⟨rfl, rfl⟩
  rcases Nat.mod_two_eq_zero_or_one x with h2 | h2
  · rw [h2]
    have hfin : NewModOf p b xs rest w (.returned (.tuple #[.pointer (some ⟨w.heap.size, 0, none⟩), .nilIface])) W1 := by
      refine ⟨w.heap.size, rfl, Nat.le_refl _, ⟨0, .pointer none, ⟨?_, HX1.out⟩, HS.out, H1.out, by decide, fun h => ?_⟩, ?_⟩
      · rw [HO.out, h2, ← HW1.out]; exact Blk.new w _ _
      · rw [HO.out, h2] at h; cases h
      · rw [← HW1.out]; exact (Kept.refl _ w).alloc _
    have FIN := Lib.hid hfin
    clear hfin h2
    go_wp2_with fail
    go_ret2
    exact FIN.out
  · rw [h2]
    rw [show W1 = w.alloc (.cells #[.pointer (some ⟨p, 0, none⟩), .bool false, .int .u64 0, .pointer none] 97) from HW1.out.symm]
    have hc1 := HX.out.cell
    have hxl : xs[0]? = some x := by rw [HXX.out]; rfl
    have cx : w.cell? ⟨b, 0, none⟩ = some (.int .u64 (x : Int)) := HX.out.2.1.cellIs (by rw [HXX.out]; rfl)
    rw [HNL.out] at hc1
    have hpos : (0 : Int) < (n : Int) := by omega
    have HXL := Lib.hid hxl
    have hmi := fun w' => minusInv_any x w' hxw h2
    have HMI := Lib.hid hmi
    clear hxl hmi hc0
    go_wp2_with fail
    refine (HMI.out _).mono ?_
    rintro e w1 ⟨z, rfl, hz, hzi, rfl⟩
    obtain ⟨T, hT⟩ : ∃ T, bitLen (val xs) = T + 1 := by
      have : ¬ bitLen (val xs) ≤ 0 := fun h => by
        have := (bitLen_le _ _).1 h
        have := H1.out
        simp at *; omega
      exact ⟨bitLen (val xs) - 1, by omega⟩
    obtain ⟨W2, hW2⟩ : ∃ W2, w.alloc (.cells #[.pointer (some ⟨p, 0, none⟩), .bool true, .int .u64 (z : Int), .pointer none] 97) = W2 := ⟨_, rfl⟩
    have hk2 : Kept NoBlk w W2 := by rw [← hW2]; exact (Kept.refl _ w).alloc _
    have hm2 : ModAt W2 w.heap.size p b xs rest true z (.pointer none) := ⟨by rw [← hW2]; exact Blk.new w _ _, HX.out.still hk2⟩
    have hinv : xs.headD 0 * z % 18446744073709551616 = 18446744073709551615 := by rw [HXX.out]; exact hzi
    have hr := rr_any w.heap.size p b n (val xs) T xs rest z (.pointer none) W2 hm2 HNL.out rfl hn1 (by have := HNL.out; omega) (HO.out.trans h2) H1.out hT (by have := HGE.out; rw [HNL.out] at this; exact this) hinv
    have HR := Lib.hid hr
    have HM2 := Lib.hid hm2
    have HK2 := Lib.hid hk2
    have HINV := Lib.hid hinv
    have HZ2 := Lib.hid hz
    have HH2 := Lib.hid h2
    clear hr hm2 hk2 hinv hz hT hzi h2 hc1 cx
    go_wp2_with fail
    refine HR.out.mono ?_
    rintro e w3 ⟨rs, hrl, hrv, pr, br, rt, rfl, hp1, hp2, hnr, hcap1, hcap2, k3⟩
    have hb3 := HM2.out.1.kept k3 (fun e => e)
    have hx3 := HM2.out.2.still k3
    have cq := hb3.cellIs (i := 3) rfl
    have fq := hb3.frozen 3
    have hs2 := HK2.out.size
    have hfin : NewModOf p b xs rest w (.returned (.tuple #[.pointer (some ⟨w.heap.size, 0, none⟩), .nilIface])) (w3.setCell ⟨w.heap.size, 3, none⟩ (.pointer (some ⟨pr, 0, none⟩))) := by
      have hlt : w.heap.size < W2.heap.size := HM2.out.1.lt
      have hbs := hb3.set_ 3 (.pointer (some ⟨pr, 0, none⟩))
      have hk : Kept NoBlk w (w3.setCell ⟨w.heap.size, 3, none⟩ (.pointer (some ⟨pr, 0, none⟩))) := (HK2.out.none k3).setNew (Nat.le_refl _) _ _
      refine ⟨w.heap.size, rfl, Nat.le_refl _, ⟨z, .pointer (some ⟨pr, 0, none⟩), ⟨?_, HX.out.still hk⟩, HS.out, H1.out, HZ2.out, fun _ => ⟨HINV.out, pr, br, rs, rt, rfl, by omega, by omega, ?_, hrl.trans HNL.out.symm, by rw [HNL.out]; exact hrv, fun h => ?_⟩⟩, hk⟩
      · rw [HO.out, HH2.out]; exact hbs
      · exact hnr.kept ((Kept.refl (OneBlk w.heap.size) w3).setOne _ _) (fun e => by unfold OneBlk at e; omega) (fun e => by unfold OneBlk at e; omega)
      · have := hcap2 (by rw [hrl, ← HNL.out]; exact h)
        omega
    have FIN := Lib.hid hfin
    clear hb3 hx3 hnr hrv hrl hcap1 hcap2 k3 hfin HR
    go_wp2_with fail
    go_ret2
    exact FIN.out

/-- What NewModulus leaves: a modulus of its own. -/
def NewMod (bs : List UInt8) (w : World) (e : Ending) (w' : World) : Prop :=
  ∃ q pn bn ms mr, e = .returned (.tuple #[.pointer (some ⟨q, 0, none⟩), .nilIface]) ∧ w.heap.size ≤ q ∧ w.heap.size ≤ pn ∧ w.heap.size ≤ bn ∧ ModBig w' w.heap.size q pn bn ms mr ∧ val ms = num bs ∧ 8 * ms.length ≤ bs.length + 7 ∧ ms.length + mr.length ≤ 500000 ∧ (bs.length ≤ 256 → pn = bn + 1 ∧ ms.length + mr.length = 32) ∧ Kept NoBlk w w'

theorem newMod_any (A : Option Addr) (cap : Nat) (bs : List UInt8) (w : World) (hb : BytesAt w A bs) (hA : ∀ a, A = some a → bs ≠ [] → a.block < w.heap.size) (hc : bs.length ≤ cap) (hL : bs.length ≤ 3000000) (h1 : 1 < num bs) :
    Calls Tryz.prog 40 #[.slice A bs.length cap] w (NewMod bs w) := by
  have HB := Lib.hid hb
  have HA := Lib.hid hA
  have H1 := Lib.hid h1
  clear hb hA h1
  go_enter Tryz.func40, Tryz.ntmps40
  go_wp2_with fail
  refine (newNat_any w).mono ?_
  rintro e w1 ⟨rfl, h1, k1⟩
  have hr := resetToBytes_any (w.heap.size + 1) w.heap.size [] (noughts 32) A cap bs w1 h1 (HB.out.still k1) (fun a e h0 => by have := HA.out a e h0; omega) (by simp [noughts]) hc hL
  have HR := Lib.hid hr
  have K1 := Lib.hid k1
  clear hr h1 k1
  go_wp2_with fail
  refine HR.out.mono ?_
  rintro e w2 ⟨rfl, b, ms, mr, h1, h2, h3, h4, h5, h6, h7, k2⟩
  rw [noughts_length, List.length_nil, Nat.zero_add] at h6 h7
  have hm := newModulus_any (w.heap.size + 1) b ms mr w2 h1 h2 (by rw [h3]; exact H1.out) (by omega)
  have hk : Kept NoBlk w w2 := K1.out.step k2 (fun i hi e => by unfold Both at e; omega)
  have HM := Lib.hid hm
  have HK := Lib.hid hk
  have HV := Lib.hid h3
  have hs1 := K1.out.size
  have h4' : 8 * ms.length ≤ bs.length + 7 := h4
  have h5' : w.heap.size ≤ b := by omega
  have H7 : Hid (bs.length ≤ 256 → w.heap.size + 1 = b + 1 ∧ ms.length + mr.length = 32) := Lib.hid (fun h => by have := h7 (by omega); omega)
  have h8 : ms.length + mr.length ≤ 500000 := by omega
  clear hm h1 h2 h3 h4 h5 h6 h7 k2 hk HR K1
  go_wp2_with fail
  refine HM.out.mono ?_
  rintro e w3 ⟨q, rfl, hq, hm, k3⟩
  have hfin : NewMod bs w (.returned (.tuple #[.pointer (some ⟨q, 0, none⟩), .nilIface])) w3 := ⟨q, w.heap.size + 1, b, ms, mr, rfl, Nat.le_trans HK.out.size hq, by omega, h5', hm.low HK.out.size, HV.out, h4', h8, H7.out, HK.out.none k3⟩
  have FIN := Lib.hid hfin
  clear hfin hm k3 HM
  go_wp2_with fail
  go_ret2
  exact FIN.out

end Go.Proofs.YtdmpiecdpdknaaaGreatDoor
