/-
  bigmod.Nat.Exp.
-/
import Derived.Test.YtdmpiecdpdknaaaGreatDoorMulE
namespace Go.Proofs.YtdmpiecdpdknaaaGreatDoor
open Go.RowKit

theorem off_bytes {w : World} {A : Option Addr} {bs : List UInt8} {p n v : Nat} (h : Nm w p n v) (hb : BytesAt w A bs) : OffNm A bs p := by
  rintro a rfl hne
  obtain ⟨b, off, e, _, hc⟩ := hb.at_ (k := 0) (by cases bs with | nil => exact absurd rfl hne | cons x xs => simp)
  cases e
  obtain ⟨x, hx⟩ : ∃ x, bs[0]? = some x := by cases bs with | nil => exact absurd rfl hne | cons x xs => exact ⟨x, rfl⟩
  have c0 := hc 0 x hx
  rw [Nat.add_zero] at c0
  obtain ⟨xs, rest, hN, _⟩ := h
  refine ⟨?_, hN.noBytes c0⟩
  rintro rfl
  rw [hN.1.cell] at c0
  cases off with
  | zero => simp [B] at c0
  | succ k => simp at c0

section
variable (w : World) (po q pn pr no vo n m v g T : Nat) (P : Nat → Nat)
/-- What stays while a power is taken. -/
structure ExpC : Prop where
  hpo : Nm w po no vo
  hm : Md w q pn pr n m
  ho : m % 2 = 1
  hpn : pn ≠ po
  hpr : pr ≠ po
  hP : ∀ j, j < 15 → w.heap.size < P j ∧ P j + 1 < g + 1
  inj : ∀ i j, i < j → j < 15 → P i < P j
  hgT : g + 1 < T

/-- The table's pointers. -/
def TabP (wr : World) : Prop := g < wr.heap.size ∧ ∀ j, j < 15 → wr.cell? ⟨g, j, none⟩ = some (.pointer (some ⟨P j, 0, none⟩))
/-- The table while it is filled. -/
def TabI (i : Nat) (wr : World) : Prop := TabP g P wr ∧ (∀ j, j < i → j < 15 → ∃ u, u < m ∧ MF n m u (v ^ (j + 1)) ∧ Nm wr (P j) n u) ∧ (∀ j, i ≤ j → j < 15 → Nm wr (P j) 0 0) ∧ Kept NoBlk w wr
/-- The power v to the E in the number at po, t at T. -/
def ExpSt (E u t : Nat) (wr : World) : Prop := u < m ∧ MF n m u (v ^ E) ∧ Nm wr po n u ∧ Nm wr T n t ∧ TabP g P wr ∧ (∀ j, j < 15 → ∃ u, u < m ∧ MF n m u (v ^ (j + 1)) ∧ Nm wr (P j) n u) ∧ Kept (At2 po) w wr
end

section
variable {w : World} {po q pn pr no vo n m v g T : Nat} {P : Nat → Nat}
theorem TabP.kept {S : Nat → Prop} {wr w' : World} (h : TabP g P wr) (k : Kept S wr w') (hg : ¬ S g) : TabP g P w' :=
  ⟨Nat.lt_of_lt_of_le h.1 k.size, fun j hj => (k.cell (p := ⟨g, j, none⟩) h.1 hg).trans (h.2 j hj)⟩

theorem TabI.still {i : Nat} {wr w' : World} (h : TabI w n m v g P i wr) (k : Kept NoBlk wr w') : TabI w n m v g P i w' :=
  ⟨h.1.kept k (fun e => e), fun j h1 h2 => by obtain ⟨u, a, b, c⟩ := h.2.1 j h1 h2; exact ⟨u, a, b, c.still k⟩, fun j h1 h2 => (h.2.2.1 j h1 h2).still k, h.2.2.2.none k⟩
/-- The next number of the table. -/
theorem TabI.put {i u : Nat} {wr w' : World} (hP : ∀ j, j < 15 → w.heap.size < P j ∧ P j + 1 < g + 1) (inj : ∀ i j, i < j → j < 15 → P i < P j) (h : TabI w n m v g P i wr) (hi : i < 15) (k : Kept (At2 (P i)) wr w') (hu : u < m) (hF : MF n m u (v ^ (i + 1))) (hN : Nm w' (P i) n u) : TabI w n m v g P (i + 1) w' := by
  have hp := hP i hi
  have hNi := h.2.2.1 i (Nat.le_refl _) hi
  refine ⟨h.1.kept k (fun e => by unfold At2 at e; omega), fun j h1 h2 => ?_, fun j h1 h2 => ?_, At2.new h.2.2.2 k hp.1⟩
  · rcases Nat.lt_or_ge j i with hji | hji
    · obtain ⟨u', a, b, c⟩ := h.2.1 j hji h2
      exact ⟨u', a, b, c.away hNi (by have := inj j i hji hi; omega) k⟩
    · obtain rfl : j = i := by omega
      exact ⟨u, hu, hF, hN⟩
  · exact (h.2.2.1 j (by omega) h2).away hNi (by have := inj i j (by omega) h2; omega) k

theorem ExpSt.drew {E u t : Nat} {wr : World} (h : ExpSt w po n m v g T P E u t wr) : ExpSt w po n m v g T P E u t wr.drew :=
  ⟨h.1, h.2.1, h.2.2.1.drew, h.2.2.2.1.drew, h.2.2.2.2.1, fun j hj => h.2.2.2.2.2.1 j hj, h.2.2.2.2.2.2.drew⟩
theorem ExpSt.still {E u t : Nat} {wr w' : World} (h : ExpSt w po n m v g T P E u t wr) (k : Kept NoBlk wr w') : ExpSt w po n m v g T P E u t w' :=
  ⟨h.1, h.2.1, h.2.2.1.still k, h.2.2.2.1.still k, h.2.2.2.2.1.kept k (fun e => e), fun j hj => by
    obtain ⟨u', a, b, c⟩ := h.2.2.2.2.2.1 j hj
    exact ⟨u', a, b, c.still k⟩, h.2.2.2.2.2.2.none k⟩
theorem ExpSt.out {E E' u u' t : Nat} {wr w' : World} (C : ExpC w po q pn pr no vo n m g T P) (h : ExpSt w po n m v g T P E u t wr) (k : Kept (At2 po) wr w') (hu : u' < m) (hF : MF n m u' (v ^ E')) (hN : Nm w' po n u') : ExpSt w po n m v g T P E' u' t w' := by
  obtain ⟨h1, h2, h3, h4, h5, h6, h7⟩ := h
  have hp := C.hpo.lt.2
  have hP0 := C.hP 0 (by decide)
  have hgT := C.hgT
  refine ⟨hu, hF, hN, h4.away h3 (by omega) k, h5.kept k (fun e => by unfold At2 at e; omega), fun j hj => ?_, h7.trans k⟩
  obtain ⟨u2, a, b, c⟩ := h6 j hj
  exact ⟨u2, a, b, c.away h3 (by have := C.hP j hj; omega) k⟩
theorem ExpSt.tmp {E u t t' : Nat} {wr w' : World} (C : ExpC w po q pn pr no vo n m g T P) (h : ExpSt w po n m v g T P E u t wr) (k : Kept (At2 T) wr w') (hN : Nm w' T n t') : ExpSt w po n m v g T P E u t' w' := by
  obtain ⟨h1, h2, h3, h4, h5, h6, h7⟩ := h
  have hp := C.hpo.lt.2
  have hP0 := C.hP 0 (by decide)
  have hgT := C.hgT
  refine ⟨h1, h2, h3.away h4 (by omega) k, hN, h5.kept k (fun e => by unfold At2 at e; omega), fun j hj => ?_, At2.new h7 k (by omega)⟩
  obtain ⟨u2, a, b, c⟩ := h6 j hj
  exact ⟨u2, a, b, c.away h4 (by have := C.hP j hj; omega) k⟩
/-- The blocks of the two numbers. -/
def At4 (a b : Nat) : Nat → Prop := fun k => At2 a k ∨ At2 b k
theorem At4.l {a b : Nat} {wr w' : World} (k : Kept (At2 a) wr w') : Kept (At4 a b) wr w' := k.mono (fun _ _ e => .inl e)
theorem At4.r {a b : Nat} {wr w' : World} (k : Kept (At2 b) wr w') : Kept (At4 a b) wr w' := k.mono (fun _ _ e => .inr e)
/-- The row of the two shifts. -/
def SmallT (gs : Nat) (wr : World) : Prop := gs < wr.heap.size ∧ wr.cell? ⟨gs, 0, none⟩ = some (.int .i64 4) ∧ wr.cell? ⟨gs, 1, none⟩ = some (.int .i64 0)
theorem SmallT.kept {gs : Nat} {S : Nat → Prop} {wr w' : World} (h : SmallT gs wr) (k : Kept S wr w') (hs : ¬ S gs) : SmallT gs w' :=
  ⟨Nat.lt_of_lt_of_le h.1 k.size, (k.cell (p := ⟨gs, 0, none⟩) h.1 hs).trans h.2.1, (k.cell (p := ⟨gs, 1, none⟩) h.1 hs).trans h.2.2⟩

theorem ExpSt.md {E u t : Nat} {wr : World} (C : ExpC w po q pn pr no vo n m g T P) (h : ExpSt w po n m v g T P E u t wr) : Md wr q pn pr n m := C.hm.away C.hpo C.hpn C.hpr h.2.2.2.2.2.2

/-- A square. -/
theorem exp_sq {E u t : Nat} {wr : World} (C : ExpC w po q pn pr no vo n m g T P) (h : ExpSt w po n m v g T P E u t wr) :
    Calls Tryz.prog 73 #[.pointer (some ⟨po, 0, none⟩), .pointer (some ⟨po, 0, none⟩), .pointer (some ⟨po, 0, none⟩), .pointer (some ⟨q, 0, none⟩)] wr fun e w' =>
      e = .returned (.pointer (some ⟨po, 0, none⟩)) ∧ ∃ u', ExpSt w po n m v g T P (2 * E) u' t w' ∧ Kept (At4 po T) wr w' := by
  refine (mont_nm po po po q pn pr n u n m u u wr h.2.2.1 h.2.2.1 h.2.2.1 (h.md C) C.ho C.hpn h.1).mono ?_
  rintro e w' ⟨z, hz, hR, rfl, hN, hK⟩
  have hF := h.2.1.mul C.ho h.2.1 hz hR
  rw [← Nat.pow_add, ← Nat.two_mul] at hF
  exact ⟨rfl, z, h.out C hK hz hF hN, At4.l hK⟩
/-- The number at T is multiplied. -/
theorem exp_mul {E u t k : Nat} {wr : World} (C : ExpC w po q pn pr no vo n m g T P) (h : ExpSt w po n m v g T P E u t wr) (ht : 1 ≤ k → MF n m t (v ^ k)) :
    Calls Tryz.prog 73 #[.pointer (some ⟨T, 0, none⟩), .pointer (some ⟨po, 0, none⟩), .pointer (some ⟨T, 0, none⟩), .pointer (some ⟨q, 0, none⟩)] wr fun e w' =>
      e = .returned (.pointer (some ⟨T, 0, none⟩)) ∧ ∃ t', t' < m ∧ (1 ≤ k → MF n m t' (v ^ (E + k))) ∧ ExpSt w po n m v g T P E u t' w' ∧ Kept (At4 po T) wr w' := by
  have hlt := C.hm.ltq
  have hP0 := C.hP 0 (by decide)
  have hgT := C.hgT
  refine (mont_nm T po T q pn pr n t n m u t wr h.2.2.2.1 h.2.2.1 h.2.2.2.1 (h.md C) C.ho (by omega) h.1).mono ?_
  rintro e w' ⟨z, hz, hR, rfl, hN, hK⟩
  refine ⟨rfl, z, hz, fun hk => ?_, h.tmp C hK hN, At4.r hK⟩
  rw [Nat.pow_add]
  exact h.2.1.mul C.ho (ht hk) hz hR
/-- A number of the table is chosen. -/
theorem exp_sel {E u t j : Nat} (b : Bool) {wr : World} (C : ExpC w po q pn pr no vo n m g T P) (h : ExpSt w po n m v g T P E u t wr) (hj : j < 15) :
    Calls Tryz.prog 87 #[.pointer (some ⟨T, 0, none⟩), .int .u64 (bitN b : Int), .pointer (some ⟨P j, 0, none⟩)] wr fun e w' =>
      e = .returned (.pointer (some ⟨T, 0, none⟩)) ∧ ∃ t', (b = true → MF n m t' (v ^ (j + 1))) ∧ (b = false → t' = t) ∧ ExpSt w po n m v g T P E u t' w' ∧ Kept (At4 po T) wr w' := by
  obtain ⟨u2, a1, a2, a3⟩ := h.2.2.2.2.2.1 j hj
  have hp := C.hP j hj
  have hgT := C.hgT
  refine (assign_nm T (P j) n t u2 (bitN b) wr (bitN_le b) h.2.2.2.1 a3 (by omega)).mono ?_
  rintro e w' ⟨rfl, hN, hK⟩
  refine ⟨rfl, _, ?_, ?_, h.tmp C hK hN, At4.r hK⟩
  · rintro rfl; exact a2
  · rintro rfl; rfl
/-- The product is taken over, or not. -/
theorem exp_asg {E u t k : Nat} {wr : World} (C : ExpC w po q pn pr no vo n m g T P) (h : ExpSt w po n m v g T P E u t wr) (ht : t < m) (hk : 1 ≤ k → MF n m t (v ^ (E + k))) :
    Calls Tryz.prog 87 #[.pointer (some ⟨po, 0, none⟩), .int .u64 (bitN (!decide (k = 0)) : Int), .pointer (some ⟨T, 0, none⟩)] wr fun e w' =>
      e = .returned (.pointer (some ⟨po, 0, none⟩)) ∧ ∃ u', ExpSt w po n m v g T P (E + k) u' t w' ∧ Kept (At4 po T) wr w' := by
  have hp := C.hpo.lt.2
  have hP0 := C.hP 0 (by decide)
  have hgT := C.hgT
  refine (assign_nm po T n u t (bitN (!decide (k = 0))) wr (bitN_le _) h.2.2.1 h.2.2.2.1 (by omega)).mono ?_
  rintro e w' ⟨rfl, hN, hK⟩
  refine ⟨rfl, ?_⟩
  by_cases h0 : k = 0
  · subst h0
    exact ⟨u, h.out C hK h.1 h.2.1 hN, At4.l hK⟩
  · rw [decide_eq_false h0] at hN
    exact ⟨t, h.out C hK ht (hk (by omega)) hN, At4.l hK⟩
end

theorem and15_u8 (x : Nat) (hx : x ≤ 255) : bits .and .u8 (x : Int) 15 = ((x % 16 : Nat) : Int) := by
  have h1 : (BitVec.ofInt 8 (x : Int)).toNat = x := by
    rw [BitVec.ofInt_natCast, BitVec.toNat_ofNat]; exact Nat.mod_eq_of_lt (by omega)
  have h2 : (BitVec.ofInt 8 ((15 : Nat) : Int)).toNat = 15 := by
    rw [BitVec.ofInt_natCast, BitVec.toNat_ofNat]
  show IntKind.u8.wrap ((BitVec.ofInt 8 (x : Int) &&& BitVec.ofInt 8 ((15 : Nat) : Int)).toNat : Int) = _
  rw [BitVec.toNat_and, h1, h2, IntKind.wrap_u8, show x &&& 15 = x % 16 from Nat.and_two_pow_sub_one_eq_mod x 4]
  omega

set_option maxHeartbeats 1600000 in
set_option maxRecDepth 8000 in
theorem exp_nm (po px q pn pr no vo n m v : Nat) (A : Option Addr) (cap : Nat) (eb : List UInt8) (w : World) (hpo : Nm w po no vo) (hx : Nm w px n v) (hm : Md w q pn pr n m) (ho : m % 2 = 1) (hpn : pn ≠ po) (hpr : pr ≠ po) (hv : v < m) (hb : BytesAt w A eb) (hel : eb.length ≤ 1000000) :
    Calls Tryz.prog 61 #[.pointer (some ⟨po, 0, none⟩), .pointer (some ⟨px, 0, none⟩), .slice A eb.length cap, .pointer (some ⟨q, 0, none⟩)] w (NmOut po n (v ^ num eb % m) w) := by
  have c3 := hm.flag.1
  rw [ho, show (1 == 1) = true from rfl] at c3
  have hn1 := hm.2.1
  have hpol := hpo.lt
  have hpxl := hx.lt
  have HOFF := Lib.hid (off_bytes hpo hb)
  have HPO := Lib.hid hpo
  have HX := Lib.hid hx
  have HM := Lib.hid hm
  have HB := Lib.hid hb
  have HO := Lib.hid ho
  have HV := Lib.hid hv
  clear hpo hx hm hb ho hv
  go_enter Tryz.func61, Tryz.ntmps61
  go_wp2_with fail
  refine (newNat_nm w).mono ?_
  rintro e w1 ⟨rfl, h1, k1⟩
  have H1 := Lib.hid h1
  have K1 := Lib.hid k1
  clear h1 k1
  go_wp2_with fail
  refine (newNat_nm w1).mono ?_
  rintro e w2 ⟨rfl, h2, k2⟩
  have H2 := Lib.hid h2
  have K2 := Lib.hid k2
  clear h2 k2
  go_wp2_with fail
  refine (newNat_nm w2).mono ?_
  rintro e w3 ⟨rfl, h3, k3⟩
  have H3 := Lib.hid h3
  have K3 := Lib.hid k3
  clear h3 k3
  go_wp2_with fail
  refine (newNat_nm w3).mono ?_
  rintro e w4 ⟨rfl, h4, k4⟩
  have H4 := Lib.hid h4
  have K4 := Lib.hid k4
  clear h4 k4
  go_wp2_with fail
  refine (newNat_nm w4).mono ?_
  rintro e w5 ⟨rfl, h5, k5⟩
  have H5 := Lib.hid h5
  have K5 := Lib.hid k5
  clear h5 k5
  go_wp2_with fail
  refine (newNat_nm w5).mono ?_
  rintro e w6 ⟨rfl, h6, k6⟩
  have H6 := Lib.hid h6
  have K6 := Lib.hid k6
  clear h6 k6
  go_wp2_with fail
  refine (newNat_nm w6).mono ?_
  rintro e w7 ⟨rfl, h7, k7⟩
  have H7 := Lib.hid h7
  have K7 := Lib.hid k7
  clear h7 k7
  go_wp2_with fail
  refine (newNat_nm w7).mono ?_
  rintro e w8 ⟨rfl, h8, k8⟩
  have H8 := Lib.hid h8
  have K8 := Lib.hid k8
  clear h8 k8
  go_wp2_with fail
  refine (newNat_nm w8).mono ?_
  rintro e w9 ⟨rfl, h9, k9⟩
  have H9 := Lib.hid h9
  have K9 := Lib.hid k9
  clear h9 k9
  go_wp2_with fail
  refine (newNat_nm w9).mono ?_
  rintro e w10 ⟨rfl, h10, k10⟩
  have H10 := Lib.hid h10
  have K10 := Lib.hid k10
  clear h10 k10
  go_wp2_with fail
  refine (newNat_nm w10).mono ?_
  rintro e w11 ⟨rfl, h11, k11⟩
  have H11 := Lib.hid h11
  have K11 := Lib.hid k11
  clear h11 k11
  go_wp2_with fail
  refine (newNat_nm w11).mono ?_
  rintro e w12 ⟨rfl, h12, k12⟩
  have H12 := Lib.hid h12
  have K12 := Lib.hid k12
  clear h12 k12
  go_wp2_with fail
  refine (newNat_nm w12).mono ?_
  rintro e w13 ⟨rfl, h13, k13⟩
  have H13 := Lib.hid h13
  have K13 := Lib.hid k13
  clear h13 k13
  go_wp2_with fail
  refine (newNat_nm w13).mono ?_
  rintro e w14 ⟨rfl, h14, k14⟩
  have H14 := Lib.hid h14
  have K14 := Lib.hid k14
  clear h14 k14
  go_wp2_with fail
  refine (newNat_nm w14).mono ?_
  rintro e w15 ⟨rfl, h15, k15⟩
  have H15 := Lib.hid h15
  have K15 := Lib.hid k15
  clear h15 k15
  go_wp2_with fail
  have G1 := Lib.hid H1.out.lt.2
  have G2 := Lib.hid H2.out.lt.2
  have G3 := Lib.hid H3.out.lt.2
  have G4 := Lib.hid H4.out.lt.2
  have G5 := Lib.hid H5.out.lt.2
  have G6 := Lib.hid H6.out.lt.2
  have G7 := Lib.hid H7.out.lt.2
  have G8 := Lib.hid H8.out.lt.2
  have G9 := Lib.hid H9.out.lt.2
  have G10 := Lib.hid H10.out.lt.2
  have G11 := Lib.hid H11.out.lt.2
  have G12 := Lib.hid H12.out.lt.2
  have G13 := Lib.hid H13.out.lt.2
  have G14 := Lib.hid H14.out.lt.2
  have G15 := Lib.hid H15.out.lt.2
  obtain ⟨P, hP⟩ : ∃ P : Nat → Nat, P = fun j => ([w.heap.size + 1, w1.heap.size + 1, w2.heap.size + 1, w3.heap.size + 1, w4.heap.size + 1, w5.heap.size + 1, w6.heap.size + 1, w7.heap.size + 1, w8.heap.size + 1, w9.heap.size + 1, w10.heap.size + 1, w11.heap.size + 1, w12.heap.size + 1, w13.heap.size + 1, w14.heap.size + 1] : List Nat).getD j 0 := ⟨_, rfl⟩
  obtain ⟨g, hg⟩ : ∃ g, w15.heap.size = g := ⟨_, rfl⟩
  have p0 : w.heap.size + 1 = P 0 := by rw [hP]; rfl
  have p1 : w1.heap.size + 1 = P 1 := by rw [hP]; rfl
  have p2 : w2.heap.size + 1 = P 2 := by rw [hP]; rfl
  have p3 : w3.heap.size + 1 = P 3 := by rw [hP]; rfl
  have p4 : w4.heap.size + 1 = P 4 := by rw [hP]; rfl
  have p5 : w5.heap.size + 1 = P 5 := by rw [hP]; rfl
  have p6 : w6.heap.size + 1 = P 6 := by rw [hP]; rfl
  have p7 : w7.heap.size + 1 = P 7 := by rw [hP]; rfl
  have p8 : w8.heap.size + 1 = P 8 := by rw [hP]; rfl
  have p9 : w9.heap.size + 1 = P 9 := by rw [hP]; rfl
  have p10 : w10.heap.size + 1 = P 10 := by rw [hP]; rfl
  have p11 : w11.heap.size + 1 = P 11 := by rw [hP]; rfl
  have p12 : w12.heap.size + 1 = P 12 := by rw [hP]; rfl
  have p13 : w13.heap.size + 1 = P 13 := by rw [hP]; rfl
  have p14 : w14.heap.size + 1 = P 14 := by rw [hP]; rfl
  have hPP : ∀ j, j < 15 → w.heap.size < P j ∧ P j + 1 < g + 1 := by
    intro j hj
    have := G1.out
    have := G2.out
    have := G3.out
    have := G4.out
    have := G5.out
    have := G6.out
    have := G7.out
    have := G8.out
    have := G9.out
    have := G10.out
    have := G11.out
    have := G12.out
    have := G13.out
    have := G14.out
    have := G15.out
    have h : j = 0 ∨ j = 1 ∨ j = 2 ∨ j = 3 ∨ j = 4 ∨ j = 5 ∨ j = 6 ∨ j = 7 ∨ j = 8 ∨ j = 9 ∨ j = 10 ∨ j = 11 ∨ j = 12 ∨ j = 13 ∨ j = 14 := by omega
    rcases h with rfl | rfl | rfl | rfl | rfl | rfl | rfl | rfl | rfl | rfl | rfl | rfl | rfl | rfl | rfl <;> omega
  have hstep : ∀ j, j + 1 < 15 → P j < P (j + 1) := by
    intro j hj
    have := G1.out
    have := G2.out
    have := G3.out
    have := G4.out
    have := G5.out
    have := G6.out
    have := G7.out
    have := G8.out
    have := G9.out
    have := G10.out
    have := G11.out
    have := G12.out
    have := G13.out
    have := G14.out
    have := G15.out
    have h : j = 0 ∨ j = 1 ∨ j = 2 ∨ j = 3 ∨ j = 4 ∨ j = 5 ∨ j = 6 ∨ j = 7 ∨ j = 8 ∨ j = 9 ∨ j = 10 ∨ j = 11 ∨ j = 12 ∨ j = 13 := by omega
    rcases h with rfl | rfl | rfl | rfl | rfl | rfl | rfl | rfl | rfl | rfl | rfl | rfl | rfl | rfl <;> (simp only [Nat.zero_add, Nat.reduceAdd]; omega)
  obtain ⟨W, hW⟩ : ∃ W, w15.alloc (.cells #[.pointer (some ⟨w.heap.size + 1, 0, none⟩), .pointer (some ⟨w1.heap.size + 1, 0, none⟩), .pointer (some ⟨w2.heap.size + 1, 0, none⟩), .pointer (some ⟨w3.heap.size + 1, 0, none⟩), .pointer (some ⟨w4.heap.size + 1, 0, none⟩), .pointer (some ⟨w5.heap.size + 1, 0, none⟩), .pointer (some ⟨w6.heap.size + 1, 0, none⟩), .pointer (some ⟨w7.heap.size + 1, 0, none⟩), .pointer (some ⟨w8.heap.size + 1, 0, none⟩), .pointer (some ⟨w9.heap.size + 1, 0, none⟩), .pointer (some ⟨w10.heap.size + 1, 0, none⟩), .pointer (some ⟨w11.heap.size + 1, 0, none⟩), .pointer (some ⟨w12.heap.size + 1, 0, none⟩), .pointer (some ⟨w13.heap.size + 1, 0, none⟩), .pointer (some ⟨w14.heap.size + 1, 0, none⟩)] 119) = W := ⟨_, rfl⟩
  have hinj : ∀ i j, i < j → j < 15 → P i < P j := by
    intro i j hij hj
    induction j with
    | zero => omega
    | succ j ih =>
      rcases Nat.lt_or_ge i j with h | h
      · exact Nat.lt_trans (ih h (by omega)) (hstep j hj)
      · obtain rfl : i = j := by omega
        exact hstep i hj
  have L15 : Hid (Kept NoBlk w15 W) := Lib.hid (by rw [← hW]; exact (Kept.refl _ _).alloc _)
  have L14 : Hid (Kept NoBlk w14 W) := Lib.hid (K15.out.none L15.out)
  have L13 : Hid (Kept NoBlk w13 W) := Lib.hid (K14.out.none L14.out)
  have L12 : Hid (Kept NoBlk w12 W) := Lib.hid (K13.out.none L13.out)
  have L11 : Hid (Kept NoBlk w11 W) := Lib.hid (K12.out.none L12.out)
  have L10 : Hid (Kept NoBlk w10 W) := Lib.hid (K11.out.none L11.out)
  have L9 : Hid (Kept NoBlk w9 W) := Lib.hid (K10.out.none L10.out)
  have L8 : Hid (Kept NoBlk w8 W) := Lib.hid (K9.out.none L9.out)
  have L7 : Hid (Kept NoBlk w7 W) := Lib.hid (K8.out.none L8.out)
  have L6 : Hid (Kept NoBlk w6 W) := Lib.hid (K7.out.none L7.out)
  have L5 : Hid (Kept NoBlk w5 W) := Lib.hid (K6.out.none L6.out)
  have L4 : Hid (Kept NoBlk w4 W) := Lib.hid (K5.out.none L5.out)
  have L3 : Hid (Kept NoBlk w3 W) := Lib.hid (K4.out.none L4.out)
  have L2 : Hid (Kept NoBlk w2 W) := Lib.hid (K3.out.none L3.out)
  have L1 : Hid (Kept NoBlk w1 W) := Lib.hid (K2.out.none L2.out)
  have L0 : Hid (Kept NoBlk w W) := Lib.hid (K1.out.none L1.out)
  have hN0 : ∀ j, j < 15 → Nm W (P j) 0 0 := by
    intro j hj
    have h : j = 0 ∨ j = 1 ∨ j = 2 ∨ j = 3 ∨ j = 4 ∨ j = 5 ∨ j = 6 ∨ j = 7 ∨ j = 8 ∨ j = 9 ∨ j = 10 ∨ j = 11 ∨ j = 12 ∨ j = 13 ∨ j = 14 := by omega
    rcases h with rfl | rfl | rfl | rfl | rfl | rfl | rfl | rfl | rfl | rfl | rfl | rfl | rfl | rfl | rfl
    · rw [← p0]; exact H1.out.still L1.out
    · rw [← p1]; exact H2.out.still L2.out
    · rw [← p2]; exact H3.out.still L3.out
    · rw [← p3]; exact H4.out.still L4.out
    · rw [← p4]; exact H5.out.still L5.out
    · rw [← p5]; exact H6.out.still L6.out
    · rw [← p6]; exact H7.out.still L7.out
    · rw [← p7]; exact H8.out.still L8.out
    · rw [← p8]; exact H9.out.still L9.out
    · rw [← p9]; exact H10.out.still L10.out
    · rw [← p10]; exact H11.out.still L11.out
    · rw [← p11]; exact H12.out.still L12.out
    · rw [← p12]; exact H13.out.still L13.out
    · rw [← p13]; exact H14.out.still L14.out
    · rw [← p14]; exact H15.out.still L15.out
  have hT : TabP g P W := by
    have hb : Blk W g 119 #[.pointer (some ⟨w.heap.size + 1, 0, none⟩), .pointer (some ⟨w1.heap.size + 1, 0, none⟩), .pointer (some ⟨w2.heap.size + 1, 0, none⟩), .pointer (some ⟨w3.heap.size + 1, 0, none⟩), .pointer (some ⟨w4.heap.size + 1, 0, none⟩), .pointer (some ⟨w5.heap.size + 1, 0, none⟩), .pointer (some ⟨w6.heap.size + 1, 0, none⟩), .pointer (some ⟨w7.heap.size + 1, 0, none⟩), .pointer (some ⟨w8.heap.size + 1, 0, none⟩), .pointer (some ⟨w9.heap.size + 1, 0, none⟩), .pointer (some ⟨w10.heap.size + 1, 0, none⟩), .pointer (some ⟨w11.heap.size + 1, 0, none⟩), .pointer (some ⟨w12.heap.size + 1, 0, none⟩), .pointer (some ⟨w13.heap.size + 1, 0, none⟩), .pointer (some ⟨w14.heap.size + 1, 0, none⟩)] := by rw [← hW, ← hg]; exact Blk.new w15 _ _
    refine ⟨hb.lt, fun j hj => ?_⟩
    rw [hb.cell]
    have h : j = 0 ∨ j = 1 ∨ j = 2 ∨ j = 3 ∨ j = 4 ∨ j = 5 ∨ j = 6 ∨ j = 7 ∨ j = 8 ∨ j = 9 ∨ j = 10 ∨ j = 11 ∨ j = 12 ∨ j = 13 ∨ j = 14 := by omega
    rcases h with rfl | rfl | rfl | rfl | rfl | rfl | rfl | rfl | rfl | rfl | rfl | rfl | rfl | rfl | rfl
    · rw [← p0]; rfl
    · rw [← p1]; rfl
    · rw [← p2]; rfl
    · rw [← p3]; rfl
    · rw [← p4]; rfl
    · rw [← p5]; rfl
    · rw [← p6]; rfl
    · rw [← p7]; rfl
    · rw [← p8]; rfl
    · rw [← p9]; rfl
    · rw [← p10]; rfl
    · rw [← p11]; rfl
    · rw [← p12]; rfl
    · rw [← p13]; rfl
    · rw [← p14]; rfl
  have q0 := hT.2 0 (by decide)
  have hS := set_nm (P 0) px 0 0 n v W (hN0 0 (by decide)) (HX.out.still L0.out) (by have := hPP 0 (by decide); omega)
  have TI0 : Hid (TabI w n m v g P 0 W) := Lib.hid ⟨hT, fun j h1 _ => by omega, fun j _ h2 => hN0 j h2, L0.out⟩
  have HS := Lib.hid hS
  have PP := Lib.hid hPP
  have INJ := Lib.hid hinj
  rw [hW, p0, hg]
  clear p0 p1 p2 p3 p4 p5 p6 p7 p8 p9 p10 p11 p12 p13 p14 hstep hPP hinj hN0 hT hS hP hg hW G1 H1 K1 G2 H2 K2 G3 H3 K3 G4 H4 K4 G5 H5 K5 G6 H6 K6 G7 H7 K7 G8 H8 K8 G9 H9 K9 G10 H10 K10 G11 H11 K11 G12 H12 K12 G13 H13 K13 G14 H14 K14 G15 H15 K15 L0 L1 L2 L3 L4 L5 L6 L7 L8 L9 L10 L11 L12 L13 L14 L15
  refine HS.out.mono ?_
  rintro e w17 ⟨rfl, h17, k17⟩
  have HP0 := Lib.hid (PP.out 0 (by decide))
  have k017 : Kept NoBlk w w17 := At2.new TI0.out.2.2.2 k17 HP0.out.1
  have hrep := montRep_nm (P 0) q pn pr n m v w17 h17 (HM.out.still k017) HO.out (by have := HP0.out; have := HM.out.ltq; omega) HV.out
  have HREP := Lib.hid hrep
  have H17 := Lib.hid h17
  have K17 := Lib.hid k17
  clear h17 k17 k017 hrep HS
  go_wp2_with fail
  refine HREP.out.mono ?_
  rintro e w18 ⟨z, hz, hzF, rfl, h18, k18⟩
  have TI1 : Hid (TabI w n m v g P 1 w18) := Lib.hid (TabI.put PP.out INJ.out TI0.out (by decide) (K17.out.trans k18) hz (by rw [Nat.zero_add, Nat.pow_one]; exact hzF) h18)
  clear hz hzF h18 k18 HREP H17 K17 TI0 q0
  go_wp2_with fail
  go_loopw [10] (fun iv wr => ∃ i : Nat, 1 ≤ i ∧ i ≤ 15 ∧ iv = .int .i64 (i : Int) ∧ TabI w n m v g P i wr) (fun iv _ => 15 - (intOf iv).toNat)
  case atStart => exact ⟨1, by decide, by decide, rfl, TI1.out⟩
  case round =>
    obtain ⟨i, hi1, hi15, rfl, hti⟩ := hrel
    rcases Nat.lt_or_ge i 15 with hlt | hge
    · have ci := hti.1.2 i hlt
      have cj := hti.1.2 (i - 1) (by omega)
      have c0 := hti.1.2 0 (by decide)
      obtain ⟨u1, a1, a2, a3⟩ := hti.2.1 (i - 1) (by omega) (by omega)
      obtain ⟨u0, b1, b2, b3⟩ := hti.2.1 0 (by omega) (by omega)
      have hni := hti.2.2.1 i (Nat.le_refl _) hlt
      rw [show i - 1 + 1 = i by omega] at a2
      rw [Nat.zero_add, Nat.pow_one] at b2
      have hpi := PP.out i hlt
      have hmm := mont_nm (P i) (P (i - 1)) (P 0) q pn pr 0 0 n m u1 u0 wr.drew hni.drew a3.drew b3.drew (HM.out.still hti.2.2.2).drew HO.out (by have := HM.out.ltq; omega) a1
      have hi1i : (i : Int) - 1 = ((i - 1 : Nat) : Int) := by omega
      have hwi : IntKind.i64.wrap ((i - 1 : Nat) : Int) = ((i - 1 : Nat) : Int) := IntWalk.i64_in _ (by omega)
      have hwj : IntKind.i64.wrap ((i : Int) - 1) = ((i - 1 : Nat) : Int) := by rw [hi1i, hwi]
      have hi15i : (i : Int) < 15 := by omega
      have hj15i : ((i - 1 : Nat) : Int) < 15 := by omega
      have hgi : ¬ At2 (P i) g := fun e => by unfold At2 at e; omega
      have HMM := Lib.hid hmm
      have HTI := Lib.hid hti
      have A2 := Lib.hid a2
      have B2 := Lib.hid b2
      have HGI := Lib.hid hgi
      have hglt : g < wr.heap.size := hti.1.1
      clear hmm hti a2 b2 a3 b3 hni hgi
      go_wp2_with fail
      go_region_held3 (fun w' => w'.cell? ⟨g, i, none⟩ = some (.pointer (some ⟨P i, 0, none⟩)) ∧ w'.cell? ⟨g, i - 1, none⟩ = some (.pointer (some ⟨P (i - 1), 0, none⟩)) ∧ w'.cell? ⟨g, 0, none⟩ = some (.pointer (some ⟨P 0, 0, none⟩))) (go_keep) (first
        | (go_at_call 73; refine HMM.out.mono ?_; rintro e w3 ⟨z, hz, hR, rfl, h3, k3'⟩; have k3 : Kept (At2 (P i)) wr w3 := ((Kept.refl (At2 (P i)) wr).drew).trans k3'; have ci3 : w3.cell? ⟨g, i, none⟩ = some (.pointer (some ⟨P i, 0, none⟩)) := (k3.cell (p := ⟨g, i, none⟩) hglt HGI.out).trans ci; have cj3 : w3.cell? ⟨g, i - 1, none⟩ = some (.pointer (some ⟨P (i - 1), 0, none⟩)) := (k3.cell (p := ⟨g, i - 1, none⟩) hglt HGI.out).trans cj; have c03 : w3.cell? ⟨g, 0, none⟩ = some (.pointer (some ⟨P 0, 0, none⟩)) := (k3.cell (p := ⟨g, 0, none⟩) hglt HGI.out).trans c0))
      all_goals
        have hti2 : TabI w n m v g P (i + 1) w3 := TabI.put PP.out INJ.out HTI.out hlt k3 hz (by rw [Nat.pow_succ]; exact A2.out.mul HO.out B2.out hz hR) h3
        have HTI2 := Lib.hid hti2
        clear hti2 hz hR h3 k3 k3' HMM HTI
        go_wp2_with fail
        go_roundw
        case rel => exact ⟨i + 1, by omega, by omega, by go_num, HTI2.out⟩
        case measure => first | (simp [intOf]; done) | (simp [intOf]; omega)
    · obtain rfl : i = 15 := by omega
      have h15 : ¬ ((15 : Nat) : Int) < 15 := by decide
      have hrs := resetFor_nm po q pn pr no vo n m wr (HPO.out.still hti.2.2.2) (HM.out.still hti.2.2.2)
      have HRS := Lib.hid hrs
      have HTI := Lib.hid hti
      clear hrs hti
      go_wp2_with fail
      refine HRS.out.mono ?_
      rintro e w3 ⟨rfl, h3, k3⟩
      obtain ⟨cp, d1, d2, f2⟩ := h3.limb0 hn1
      have hone := h3.setOne (w' := w3.setCell ⟨po - 1, 0, none⟩ (.int .u64 1)) hn1 rfl
      have k4 : Kept (At2 po) wr (w3.setCell ⟨po - 1, 0, none⟩ (.int .u64 1)) := k3.setCell _ _ (fun _ => .inr rfl)
      obtain ⟨w4, hw4⟩ : ∃ w4, w3.setCell ⟨po - 1, 0, none⟩ (.int .u64 1) = w4 := ⟨_, rfl⟩
      rw [hw4] at hone k4
      have hpos : (0 : Int) < (n : Int) := by omega
      have hk04 : Kept (At2 po) w w4 := (HTI.out.2.2.2.mono (fun _ _ e => e.elim)).trans k4
      have hrep := montRep_nm po q pn pr n m 1 w4 hone (HM.out.away HPO.out hpn hpr hk04) HO.out hpn (by have := HM.out.1; exact this)
      have HREP := Lib.hid hrep
      have K04 := Lib.hid hk04
      have K4 := Lib.hid k4
      have H3 := Lib.hid h3
      clear h3 k3 hone k4 hk04 hrep HRS
      go_wp2_with fail
      refine HREP.out.mono ?_
      rintro e w5 ⟨z, hz, hzF, rfl, h5, k5⟩
      have Z5 := Lib.hid hz
      have F5 : Hid (MF n m z (v ^ 0)) := Lib.hid (by rw [Nat.pow_zero]; exact hzF)
      have H5 := Lib.hid h5
      have K5 := Lib.hid (K04.out.trans k5)
      have KW5 := Lib.hid (K4.out.trans k5)
      clear hz hzF h5 k5 HREP d1 d2 f2 hw4
      go_wp2_with fail
      refine (newNat_nm w5).mono ?_
      rintro e w6 ⟨rfl, h6, k6⟩
      have hmd6 := (HM.out.away HPO.out hpn hpr K5.out).still k6
      have hex := expandFor_nm (w5.heap.size + 1) q pn pr 0 0 n m w6 h6 hmd6 (Nat.zero_le _)
      have HEX := Lib.hid hex
      have K6 := Lib.hid k6
      clear h6 k6 hmd6 hex
      go_wp2_with fail
      refine HEX.out.mono ?_
      rintro e w7 ⟨rfl, h7, k7⟩
      have k57 : Kept NoBlk w5 w7 := At2.new K6.out k7 (Nat.lt_succ_self _)
      have hgw5 : g < w5.heap.size := Nat.lt_of_lt_of_le HTI.out.1.1 KW5.out.size
      have hnpo := HPO.out.still HTI.out.2.2.2
      have C : Hid (ExpC w po q pn pr no vo n m g (w5.heap.size + 1) P) := Lib.hid ⟨HPO.out, HM.out, HO.out, hpn, hpr, PP.out, INJ.out, by omega⟩
      have hst : ExpSt w po n m v g (w5.heap.size + 1) P 0 z 0 w7 := by
        refine ⟨Z5.out, F5.out, H5.out.still k57, h7, (HTI.out.1.kept KW5.out (fun e => by unfold At2 at e; have := HP0.out; omega)).kept k57 (fun e => e), fun j hj => ?_, K5.out.none k57⟩
        obtain ⟨u, a, b, c⟩ := HTI.out.2.1 j hj hj
        exact ⟨u, a, b, (c.away hnpo (by have := PP.out j hj; omega) KW5.out).still k57⟩
      obtain ⟨T, hT⟩ : ∃ T, w5.heap.size + 1 = T := ⟨_, rfl⟩
      rw [hT] at hst C ⊢
      have ST := Lib.hid hst
      clear hst hnpo k57 h7 k7 HEX H3 H5 K5 KW5 K04 K4 Z5 F5 K6 hT HTI TI1 hgw5
      go_wp2_with fail
      go_loopw [77] (fun iv wr => ∃ (i u t : Nat), i ≤ eb.length ∧ iv = .int .i64 (i : Int) ∧ ExpSt w po n m v g T P (num (eb.take i)) u t wr) (fun iv _ => eb.length - (intOf iv).toNat)
      case atStart => exact ⟨0, z, 0, Nat.zero_le _, rfl, by rw [List.take_zero]; exact ST.out⟩
      case round =>
        obtain ⟨wo, hwo⟩ : ∃ wo, wo = wr := ⟨_, rfl⟩
        subst hwo
        obtain ⟨i, u, t, hi, rfl, hst⟩ := hrel
        rcases Nat.lt_or_ge i eb.length with hlt | hge
        · obtain ⟨N, hN⟩ : ∃ N, num (eb.take i) = N := ⟨_, rfl⟩
          rw [hN] at hst
          obtain ⟨x, hx⟩ : ∃ x, eb[i]? = some x := ⟨_, List.getElem?_eq_getElem hlt⟩
          have htk : num (eb.take (i + 1)) = N * 256 + x.toNat := by
            rw [List.take_add_one, hx, ← hN]; exact num_snoc _ _
          have hbt := HB.out.at2 hst.2.2.2.2.2.2 HOFF.out
          obtain ⟨b, off, rfl, hbl, hcell⟩ := hbt.at_ (k := 0) (by omega)
          have cx : wo.cell? ⟨b, off + i, none⟩ = some (.int .u8 (x.toNat : Int)) := hcell _ x hx
          have bx := byte_le x
          have hilt : (i : Int) < (eb.length : Int) := by omega
          obtain ⟨gs, hgs⟩ : ∃ gs, wo.heap.size = gs := ⟨_, rfl⟩
          obtain ⟨w2, hw2⟩ : ∃ w2, wo.alloc (.cells #[.int .i64 4, .int .i64 0] 3) = w2 := ⟨_, rfl⟩
          have hTg : T < gs := by rw [← hgs]; exact hst.2.2.2.1.lt.2
          have hpg : po < gs := by rw [← hgs]; exact hst.2.2.1.lt.2
          have SM : Hid (SmallT gs w2) := Lib.hid (by
            have hb2 := Blk.new wo 3 #[.int .i64 4, .int .i64 0]
            rw [hw2, hgs] at hb2
            exact ⟨hb2.lt, hb2.cellIs rfl, hb2.cellIs rfl⟩)
          have ST2 : Hid (ExpSt w po n m v g T P N u t w2) := Lib.hid (by rw [← hw2]; exact hst.still ((Kept.refl _ _).alloc _))
          have HTK := Lib.hid htk
          have HNN := Lib.hid hN
          clear hst hbt hcell htk hx hN
          go_wp2_with fail
          go_loopw [83] (fun iv wr => ∃ (c E u t : Nat), c ≤ 2 ∧ iv = .int .i64 (c : Int) ∧ (c = 0 → E = N) ∧ (c = 1 → E = 16 * N + x.toNat / 16) ∧ (c = 2 → E = N * 256 + x.toNat) ∧ ExpSt w po n m v g T P E u t wr ∧ SmallT gs wr) (fun iv _ => 2 - (intOf iv).toNat)
          case atStart => exact ⟨0, N, u, t, by decide, rfl, fun _ => rfl, fun h => absurd h (by decide), fun h => absurd h (by decide), ST2.out, SM.out⟩
          case round =>
            obtain ⟨wi, hwi⟩ : ∃ wi, wi = wr := ⟨_, rfl⟩
            subst hwi
            obtain ⟨c, E, u1, t1, hc, rfl, hE0, hE1, hE2, hst, hsm⟩ := hrel
            rcases Nat.lt_or_ge c 2 with hc2 | hc2
            · obtain ⟨sv, y, k, hsv, hsh, hyl, hk, hk15, hE', hsv2⟩ : ∃ sv y k : Nat, wi.cell? ⟨gs, c, none⟩ = some (.int .i64 (sv : Int)) ∧ (x.toNat : Int) / 2 ^ sv = (y : Int) ∧ y ≤ 255 ∧ y % 16 = k ∧ k ≤ 15 ∧ (c + 1 = 1 → 16 * E + k = 16 * N + x.toNat / 16) ∧ ((c + 1 = 2 → 16 * E + k = N * 256 + x.toNat) ∧ sv ≤ 4) := by
                have h : c = 0 ∨ c = 1 := by omega
                rcases h with rfl | rfl
                · refine ⟨4, x.toNat / 16, x.toNat / 16, hsm.2.1, by simp, by omega, by omega, by omega, fun _ => by rw [hE0 rfl], fun h => by omega, by omega⟩
                · refine ⟨0, x.toNat, x.toNat % 16, hsm.2.2, by simp, bx, rfl, by omega, fun h => by omega, fun _ => by rw [hE1 rfl]; omega, by omega⟩
              have hand := and15_u8 y hyl
              rw [hk] at hand
              have hc2i : (c : Int) < 2 := by omega
              have HSM := Lib.hid hsm
              have HST := Lib.hid hst
              have HE' := Lib.hid hE'
              have HS2 := Lib.hid hsv2.1
              have hsv3 := hsv2.2
              have SQ1 := Lib.hid (exp_sq C.out hst)
              have hn4 : ¬ At4 po T gs := fun e => by unfold At4 At2 at e; omega
              have HN4 := Lib.hid hn4
              clear hst hsm hE0 hE1 hE2 hk hE' hsv2 hn4 ST ST2 SM
              go_wp2_with fail
              refine SQ1.out.mono ?_
              rintro e v1 ⟨rfl, u2, s1, k1⟩
              have SQ2 := Lib.hid (exp_sq C.out s1)
              have KK1 := Lib.hid k1
              clear s1 k1 SQ1
              go_wp2_with fail
              refine SQ2.out.mono ?_
              rintro e v2 ⟨rfl, u3, s1, k1⟩
              have SQ3 := Lib.hid (exp_sq C.out s1)
              have KK2 := Lib.hid (KK1.out.trans k1)
              clear s1 k1 SQ2
              go_wp2_with fail
              refine SQ3.out.mono ?_
              rintro e v3 ⟨rfl, u4, s1, k1⟩
              have SQ4 := Lib.hid (exp_sq C.out s1)
              have KK3 := Lib.hid (KK2.out.trans k1)
              clear s1 k1 SQ3
              go_wp2_with fail
              refine SQ4.out.mono ?_
              rintro e v4 ⟨rfl, u5, s1, k1⟩
              have S4 : Hid (ExpSt w po n m v g T P (16 * E) u5 t1 v4) := Lib.hid (by
                rw [show 2 * (2 * (2 * (2 * E))) = 16 * E by omega] at s1; exact s1)
              have SM4 := Lib.hid (HSM.out.kept (KK3.out.trans k1) HN4.out)
              clear s1 k1 SQ4 KK1 KK2 KK3 hsv
              go_wp2_with fail
              go_loopw [112] (fun iv wr => ∃ (d t : Nat), d ≤ 15 ∧ iv = .int .i64 (d : Int) ∧ ExpSt w po n m v g T P (16 * E) u5 t wr ∧ (1 ≤ k → k ≤ d → MF n m t (v ^ k)) ∧ SmallT gs wr) (fun iv _ => 15 - (intOf iv).toNat)
              case atStart => exact ⟨0, t1, by decide, rfl, S4.out, fun h1 h2 => by omega, SM4.out⟩
              case round =>
                obtain ⟨d, t2, hd, rfl, hst, hmf, hsm⟩ := hrel
                rcases Nat.lt_or_ge d 15 with hd15 | hd15
                · have ct := hst.2.2.2.2.1.2 d hd15
                  have hgw := hst.2.2.2.2.1.1
                  obtain ⟨d1, hd1⟩ : ∃ d1, d + 1 = d1 := ⟨_, rfl⟩
                  have e1 : (d : Int) + 1 = (d1 : Int) := by omega
                  have hw1 : IntKind.i64.wrap ((d : Int) + 1) = (d1 : Int) := by rw [e1]; exact IntWalk.i64_in _ (by omega)
                  have hw1' : IntKind.i64.wrap (d1 : Int) = (d1 : Int) := IntWalk.i64_in _ (by omega)
                  have hw2 : IntKind.u64.wrap (d1 : Int) = (d1 : Int) := by rw [IntKind.wrap_u64]; omega
                  have hw3 : IntKind.u64.wrap (k : Int) = (k : Int) := by rw [IntKind.wrap_u64]; omega
                  have hdi : (d : Int) < 15 := by omega
                  have hgT := C.out.hgT
                  have hpol2 : po < g := by have := HP0.out; omega
                  have hng : ¬ At4 po T g := fun e => by unfold At4 At2 at e; omega
                  have CE := Lib.hid (fun w' => ctEq_bit k d1 (by omega) (by omega) w')
                  have SEL := Lib.hid (exp_sel (j := d) (decide (k = d1)) C.out hst.drew hd15)
                  have HSM2 := Lib.hid hsm
                  have HMF := Lib.hid hmf
                  have HD1 := Lib.hid hd1
                  have HNG := Lib.hid hng
                  clear hst hmf hsm hd1 hng
                  go_wp2_with fail
                  go_region_held3 (fun w' => w'.cell? ⟨g, d, none⟩ = some (.pointer (some ⟨P d, 0, none⟩))) (go_keep) (first
                    | (go_at_call 88; refine (CE.out _).mono ?_; rintro e v5 ⟨rfl, rfl⟩)
                    | (go_at_call 87; refine SEL.out.mono ?_; rintro e v6 ⟨rfl, t3, m1, m2, s1, k1⟩; have ct6 : v6.cell? ⟨g, d, none⟩ = some (.pointer (some ⟨P d, 0, none⟩)) := (k1.cell (p := ⟨g, d, none⟩) hgw HNG.out).trans ct))
                  all_goals
                    have S6 := Lib.hid s1
                    have SM6 := Lib.hid (HSM2.out.kept (((Kept.refl (At4 po T) wr).drew).trans k1) HN4.out)
                    have M6 : Hid (1 ≤ k → k ≤ d1 → MF n m t3 (v ^ k)) := Lib.hid (fun h1 h2 => by
                      have hd := HD1.out
                      by_cases he : k = d1
                      · have := m1 (decide_eq_true he)
                        rw [he, ← hd]; exact this
                      · rw [m2 (decide_eq_false he)]
                        exact HMF.out h1 (by omega))
                    clear s1 k1 m1 m2 SEL ct CE
                    go_wp2_with fail
                    go_roundw
                    case rel => exact ⟨d1, t3, by omega, by first | rfl | go_num, S6.out, M6.out, SM6.out⟩
                    case measure => first | (simp [intOf]; done) | (simp [intOf]; omega)
                · obtain rfl : d = 15 := by omega
                  have h15' : ¬ ((15 : Nat) : Int) < 15 := by decide
                  have MUL := Lib.hid (exp_mul (k := k) C.out hst (fun h1 => hmf h1 hk15))
                  have HSM2 := Lib.hid hsm
                  have CE := Lib.hid (fun w' => ctEq_bit k 0 (by omega) (by decide) w')
                  have NB := Lib.hid (fun w' => not_bit (decide (k = 0)) w')
                  clear hst hmf hsm
                  go_wp2_with fail
                  refine MUL.out.mono ?_
                  rintro e v5 ⟨rfl, t3, ht3, hmf3, s1, k1⟩
                  have ASG := Lib.hid (exp_asg (k := k) C.out s1 ht3 hmf3)
                  have SM5 := Lib.hid (HSM2.out.kept k1 HN4.out)
                  clear s1 k1 MUL ht3 hmf3
                  go_wp2_with fail
                  refine (CE.out _).mono ?_
                  rintro e v6 ⟨rfl, rfl⟩
                  go_wp2_with fail
                  refine (NB.out _).mono ?_
                  rintro e v7 ⟨rfl, rfl⟩
                  go_wp2_with fail
                  refine ASG.out.mono ?_
                  rintro e v8 ⟨rfl, u6, s1, k1⟩
                  have S8 := Lib.hid s1
                  have SM8 := Lib.hid (SM5.out.kept k1 HN4.out)
                  clear s1 k1 ASG CE NB
                  go_wp2_with fail
                  go_roundw
                  case rel => exact ⟨c + 1, 16 * E + k, u6, t3, by omega, by go_num, fun h => by omega, HE'.out, HS2.out, S8.out, SM8.out⟩
                  case measure => first | (simp [intOf]; done) | (simp [intOf]; omega)
            · obtain rfl : c = 2 := by omega
              have h2' : ¬ ((2 : Nat) : Int) < 2 := by decide
              have hEE := hE2 rfl
              subst hEE
              have S9 := Lib.hid hst
              clear hst hsm hE0 hE1 hE2
              go_wp2_with fail
              go_roundw
              case rel => exact ⟨i + 1, u1, t1, by omega, by go_num, by rw [HTK.out]; exact S9.out⟩
              case measure => first | (simp [intOf]; done) | (simp [intOf]; omega)
        · obtain rfl : i = eb.length := by omega
          rw [List.take_length] at hst
          have hnl : ¬ (eb.length : Int) < (eb.length : Int) := by omega
          have RED := Lib.hid (montRed_nm po q pn pr n m u (v ^ num eb) wo hst.2.2.1 (hst.md C.out) HO.out hpn hst.1 hst.2.1)
          have KO := Lib.hid hst.2.2.2.2.2.2
          clear hst
          go_wp2_with fail
          refine RED.out.mono ?_
          rintro e w9 ⟨rfl, h9, k9⟩
          have hfin : NmOut po n (v ^ num eb % m) w (.returned (.pointer (some ⟨po, 0, none⟩))) w9 := ⟨rfl, h9, KO.out.trans k9⟩
          have FIN := Lib.hid hfin
          clear hfin h9 k9 RED
          go_wp2_with fail
          go_ret
          exact FIN.out

end Go.Proofs.YtdmpiecdpdknaaaGreatDoor
