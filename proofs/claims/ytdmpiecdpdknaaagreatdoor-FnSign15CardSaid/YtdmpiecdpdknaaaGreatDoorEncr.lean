/-
  rsa.encrypt, ZZPublic.
-/
import Derived.Test.YtdmpiecdpdknaaaGreatDoorGi
import Derived.Deep.RegionHeld3
namespace Go.Proofs.YtdmpiecdpdknaaaGreatDoor
open Go.RowKit

/-- A public key in memory (alone or within a private one): its modulus m of n words, its exponent e. -/
def Pub (w : World) (pp q pn pr n m : Nat) (e : Nat) : Prop := pp < w.heap.size ∧ w.cell? ⟨pp, 0, none⟩ = some (.pointer (some ⟨q, 0, none⟩)) ∧ w.cell? ⟨pp, 1, none⟩ = some (.int .i64 (e : Int)) ∧ Md w q pn pr n m
theorem Pub.still {w w' : World} {pp q pn pr n m e : Nat} (h : Pub w pp q pn pr n m e) (k : Kept NoBlk w w') : Pub w' pp q pn pr n m e :=
  ⟨Nat.lt_of_lt_of_le h.1 k.size, (k.cell (p := ⟨pp, 0, none⟩) h.1 (fun e => e)).trans h.2.1, (k.cell (p := ⟨pp, 1, none⟩) h.1 (fun e => e)).trans h.2.2.1, h.2.2.2.still k⟩
theorem Pub.cells {w : World} {pp q pn pr n m e : Nat} (h : Pub w pp q pn pr n m e) : w.cell? ⟨pp, 0, none⟩ = some (.pointer (some ⟨q, 0, none⟩)) ∧ w.cell? ⟨pp, 1, none⟩ = some (.int .i64 (e : Int)) := ⟨h.2.1, h.2.2.1⟩
theorem Pub.md {w : World} {pp q pn pr n m e : Nat} (h : Pub w pp q pn pr n m e) : Md w q pn pr n m := h.2.2.2

theorem lt_Pb_size {v m : Nat} (h : v < m) : v < Pb ((bitLen m + 7) / 8) := by
  rw [Pb_two]
  have a := (bitLen_le m (8 * ((bitLen m + 7) / 8))).1 (by omega)
  omega

theorem BytesAt.below {w : World} {A : Option Addr} {bs : List UInt8} (h : BytesAt w A bs) : ∀ a, A = some a → bs ≠ [] → a.block < w.heap.size := by
  rintro a rfl h0
  obtain ⟨b, off, e, hb, _⟩ := h.at_ (k := 0) (by cases bs with | nil => exact absurd rfl h0 | cons x xs => simp)
  cases e; exact hb

/-- What the public operation leaves. -/
def Encr (n m e : Nat) (bs : List UInt8) (w : World) (en : Ending) (w' : World) : Prop :=
  (num bs < m ∧ bs.length ≤ 8 * n ∧ ∃ g, en = .returned (.tuple #[.slice (some ⟨g, 0, none⟩) ((bitLen m + 7) / 8) ((bitLen m + 7) / 8), .nilIface]) ∧ w.heap.size ≤ g ∧ Blk w' g 5 ((enc ((bitLen m + 7) / 8) (num bs ^ e % m)).map B).toArray ∧ Kept NoBlk w w') ∨
  ((m ≤ num bs ∨ 8 * n < bs.length) ∧ ∃ a, en = .returned (.tuple #[.slice none 0 0, .iface 115 (.pointer (some a))]) ∧ Kept NoBlk w w')

set_option maxHeartbeats 2000000 in
theorem encrypt_nm (pp q pn pr n m e : Nat) (A : Option Addr) (cap : Nat) (bs : List UInt8) (w : World) (hp : Pub w pp q pn pr n m e) (ho : m % 2 = 1) (he0 : 0 < e) (he : e < 9223372036854775808) (hb : BytesAt w A bs) (hc : bs.length ≤ cap) (hL : bs.length ≤ 4294967296) :
    Calls Tryz.prog 36 #[.pointer (some ⟨pp, 0, none⟩), .slice A bs.length cap] w (Encr n m e bs w) := by
  obtain ⟨c1, c2⟩ := hp.cells
  have hql := hp.md.ltq
  have hrl := hp.md.ltr ho
  have hpl := hp.1
  have hbb := hb.below
  have HP := Lib.hid hp
  have HB := Lib.hid hb
  have HBB := Lib.hid hbb
  have HO := Lib.hid ho
  clear hp hb hbb ho
  by_cases hin : num bs < m ∧ bs.length ≤ 8 * n
  · obtain ⟨hin1, hin2⟩ := hin
    have HIN := Lib.hid hin1
    have HIN2 := Lib.hid hin2
    clear hin1 hin2
    go_enter Tryz.func36, Tryz.ntmps36
    go_wp2_with fail
    go_region_held3 (fun w' => w'.cell? ⟨pp, 0, none⟩ = some (.pointer (some ⟨q, 0, none⟩))) (go_keep) (first
      | (go_at_call 41; refine (newNat_nm _).mono ?_; rintro x w1 ⟨rfl, h1', k1'⟩; have h1 : Nm w1 (w.heap.size + 1) 0 0 := h1'; have k1 : Kept NoBlk w w1 := ((Kept.refl NoBlk w).drew).trans k1'; clear h1' k1'; have c1' : w1.cell? ⟨pp, 0, none⟩ = some (.pointer (some ⟨q, 0, none⟩)) := (k1.cell (p := ⟨pp, 0, none⟩) hpl (fun e => e)).trans c1)
      | (go_at_call 42; refine (setBytes_yes (w.heap.size + 1) q pn pr 0 0 n m A cap bs _ h1 ((HP.out.md).still k1) (by omega) (by omega) (HB.out.still k1) (fun a e h0 => by have := HBB.out a e h0; omega) hc hL HIN.out HIN2.out).mono ?_; rintro x w2 ⟨rfl, h2, k2⟩; have k02' : Kept NoBlk w w2 := At2.new k1 k2 (Nat.lt_succ_self _); have c1'' : w2.cell? ⟨pp, 0, none⟩ = some (.pointer (some ⟨q, 0, none⟩)) := (k02'.cell (p := ⟨pp, 0, none⟩) hpl (fun e => e)).trans c1))
    all_goals
      have k02 : Kept NoBlk w w2 := At2.new k1 k2 (Nat.lt_succ_self _)
      have d1 := (k02.cell (p := ⟨pp, 0, none⟩) hpl (fun e => e)).trans c1
      have d2 := (k02.cell (p := ⟨pp, 1, none⟩) hpl (fun e => e)).trans c2
      have hs2 := k02.size
      have hpl2 : pp < w2.heap.size := by omega
      have hwl : w.heap.size + 1 < w2.heap.size := h2.lt.2
      have heu : IntKind.u64.wrap (e : Int) = (e : Int) := by rw [IntKind.wrap_u64]; omega
      have H2 := Lib.hid h2
      have K2 := Lib.hid k02
      clear h2 k2 h1 k1 c1 c2 k02 c1'
      go_wp2_with fail
      go_region_held3 (fun w' => w'.cell? ⟨pp, 0, none⟩ = some (.pointer (some ⟨q, 0, none⟩)) ∧ w'.cell? ⟨pp, 1, none⟩ = some (.int .i64 (e : Int))) (go_keep) (first
        | (go_at_call 41; refine (newNat_nm _).mono ?_; rintro x w3 ⟨rfl, h3', k3'⟩; have h3 : Nm w3 (w2.heap.size + 1) 0 0 := h3'; have k3 : Kept NoBlk w2 w3 := ((Kept.refl NoBlk w2).drew).trans k3'; clear h3' k3'; have d1' : w3.cell? ⟨pp, 0, none⟩ = some (.pointer (some ⟨q, 0, none⟩)) := (k3.cell (p := ⟨pp, 0, none⟩) hpl2 (fun e => e)).trans d1; have d2' : w3.cell? ⟨pp, 1, none⟩ = some (.int .i64 (e : Int)) := (k3.cell (p := ⟨pp, 1, none⟩) hpl2 (fun e => e)).trans d2)
        | (go_at_call 46; refine (expShort_nm (w2.heap.size + 1) (w.heap.size + 1) q pn pr 0 0 n m (num bs) e w3 h3 (H2.out.still k3) ((HP.out.md.still K2.out).still k3) HO.out (by omega) (by omega) HIN.out he0 (by omega)).mono ?_; rintro x w4 ⟨rfl, h4, k4'⟩; have k4 : Kept NoBlk w2 w4 := At2.new k3 k4' (Nat.lt_succ_self _); clear k4'; have d1'' : w4.cell? ⟨pp, 0, none⟩ = some (.pointer (some ⟨q, 0, none⟩)) := (k4.cell (p := ⟨pp, 0, none⟩) hpl2 (fun e => e)).trans d1; have d2'' : w4.cell? ⟨pp, 1, none⟩ = some (.int .i64 (e : Int)) := (k4.cell (p := ⟨pp, 1, none⟩) hpl2 (fun e => e)).trans d2)
        | (go_at_call 47; refine (bytes_nm (w2.heap.size + 1) q pn pr n m (num bs ^ e % m) _ w4 h4 ((HP.out.md.still K2.out).still k4) rfl (lt_Pb_size (Nat.mod_lt _ (by have := HIN.out; omega)))).mono ?_; rintro x w5 ⟨rfl, hB5, k5⟩; have k25 := k4.none k5; have d1a : w5.cell? ⟨pp, 0, none⟩ = some (.pointer (some ⟨q, 0, none⟩)) := (k25.cell (p := ⟨pp, 0, none⟩) hpl2 (fun e => e)).trans d1; have d2a : w5.cell? ⟨pp, 1, none⟩ = some (.int .i64 (e : Int)) := (k25.cell (p := ⟨pp, 1, none⟩) hpl2 (fun e => e)).trans d2))
      all_goals
        have hfin : ∀ w', Kept NoBlk w5 w' → Encr n m e bs w (.returned (.tuple #[.slice (some ⟨w4.heap.size, 0, none⟩) ((bitLen m + 7) / 8) ((bitLen m + 7) / 8), .nilIface])) w' := fun w' k =>
          .inl ⟨HIN.out, HIN2.out, w4.heap.size, rfl, (K2.out.none k4).size, hB5.kept k (fun e => e), ((K2.out.none k4).none k5).none k⟩
        have FIN := Lib.hid hfin
        clear hfin hB5 k5 h4 k4 h3 k3
        go_wp2_with fail
        go_ret2
        exact FIN.out _ (by first | exact Kept.refl _ _ | exact (Kept.refl _ _).drew | exact (Kept.refl _ _).drewN _)
  · have HIN : Hid (m ≤ num bs ∨ 8 * n < bs.length) := Lib.hid (by omega)
    clear hin
    go_enter Tryz.func36, Tryz.ntmps36
    go_wp2_with fail
    go_region_held3 (fun w' => w'.cell? ⟨pp, 0, none⟩ = some (.pointer (some ⟨q, 0, none⟩))) (go_keep) (first
      | (go_at_call 41; refine (newNat_nm _).mono ?_; rintro x w1 ⟨rfl, h1', k1'⟩; have h1 : Nm w1 (w.heap.size + 1) 0 0 := h1'; have k1 : Kept NoBlk w w1 := ((Kept.refl NoBlk w).drew).trans k1'; clear h1' k1'; have c1' : w1.cell? ⟨pp, 0, none⟩ = some (.pointer (some ⟨q, 0, none⟩)) := (k1.cell (p := ⟨pp, 0, none⟩) hpl (fun e => e)).trans c1)
      | (go_at_call 42; refine (setBytes_no (w.heap.size + 1) q pn pr 0 0 n m A cap bs _ h1 ((HP.out.md).still k1) (by omega) (by omega) (HB.out.still k1) (fun a e h0 => by have := HBB.out a e h0; omega) hc hL HIN.out).mono ?_; rintro x w2 ⟨a, z, rfl, h2, k2⟩; have k02' : Kept NoBlk w w2 := At2.new k1 k2 (Nat.lt_succ_self _); have c1'' : w2.cell? ⟨pp, 0, none⟩ = some (.pointer (some ⟨q, 0, none⟩)) := (k02'.cell (p := ⟨pp, 0, none⟩) hpl (fun e => e)).trans c1))
    all_goals
      have hfin : ∀ w', Kept NoBlk w2 w' → Encr n m e bs w (.returned (.tuple #[.slice none 0 0, .iface 115 (.pointer (some a))])) w' := fun w' k => .inr ⟨HIN.out, a, rfl, (At2.new k1 k2 (Nat.lt_succ_self _)).none k⟩
      have FIN := Lib.hid hfin
      clear hfin h2 k2 h1 k1
      go_wp2_with fail
      go_ret2
      exact FIN.out _ (by first | exact Kept.refl _ _ | exact (Kept.refl _ _).drew | exact (Kept.refl _ _).drewN _)

end Go.Proofs.YtdmpiecdpdknaaaGreatDoor
