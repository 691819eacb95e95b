/-
  spec.Inverse (printed by gen_inv.py).
-/
import Derived.Test.YtdmpiecdpdknaaaSpecM
namespace Go.Proofs.Ytdmpiecdpdknaaa
open Go.RowKit

set_option maxHeartbeats 4000000 in
theorem inverseIs_any (w : World) (A A' A'' : Option Addr) (c c' c'' : Nat) (qs gs ps : List UInt8) (hq : BytesAt w A qs) (hg : BytesAt w A' gs) (hp : BytesAt w A'' ps) (hql : qs.length ≤ 100000) (hgl : gs.length ≤ 100000) (hpl : ps.length ≤ 100000) (hgc : gs.length ≤ c') (hpc : ps.length ≤ c'')
    (hlt : num gs < num ps) (h1 : 1 < num ps) (hval : (num qs % num ps) * num gs % num ps = 1) :
    Calls Try.prog 9 #[.slice A qs.length c, .slice A' gs.length c', .slice A'' ps.length c''] w fun e w' => e = .returned (.bool true) ∧ Kept NoBlk w w' := by
  have hPs : num ps < Pb ps.length := num_lt ps
  have hmq := Nat.mod_lt (num qs) (show 0 < num ps by omega)
  have hlT : ∀ v, v < num ps → (encT v).length ≤ 100000 := fun v h => Nat.le_trans ((encT_len v ps.length).2 (by omega)) hpl
  have hlP : (encT ((num qs % num ps) * num gs)).length ≤ 200000 := (encT_len _ 200000).2 (by
    have h3 : (num qs % num ps) * num gs < num ps * num ps := Nat.mul_lt_mul'' hmq hlt
    have h4 : num ps * num ps ≤ Pb ps.length * Pb ps.length := Nat.mul_le_mul (Nat.le_of_lt hPs) (Nat.le_of_lt hPs)
    rw [← Pb_add] at h4
    have h5 := Pb_le (show ps.length + ps.length ≤ 200000 by omega)
    exact Nat.lt_of_lt_of_le h3 (Nat.le_trans h4 h5))
  obtain ⟨U, hU⟩ : ∃ U, encT (num qs % num ps) = U := ⟨_, rfl⟩
  obtain ⟨V, hV⟩ : ∃ V, encT (num gs) = V := ⟨_, rfl⟩
  obtain ⟨X, hX⟩ : ∃ X, encT ((num qs % num ps) * num gs) = X := ⟨_, rfl⟩
  obtain ⟨ys, hys⟩ : ∃ ys, encT 1 = ys := ⟨_, rfl⟩
  have HYS : Hid (ys.toArray = [(1 : UInt8)].toArray) := Lib.hid (by rw [← hys]; rfl)
  have CL : Hid (∀ w', Kept NoBlk w w' → Calls Try.prog 18 #[.slice A' gs.length c', .slice A'' ps.length c''] w' (fun e w'' => e = .returned (.bool true) ∧ Kept NoBlk w' w'')) := Lib.hid (fun w' k => by
    have h := less_any w' A' A'' c' c'' gs ps (hg.still k) (hp.still k) hgc hpc (by omega) (by omega)
    rw [decide_eq_true hlt] at h
    exact h)
  have CM1 : Hid (∀ w', Kept NoBlk w w' → Calls Try.prog 16 #[.slice A qs.length c, .slice A'' ps.length c''] w' (GaveB U w')) := Lib.hid (fun w' k => by
    have h := modulo_any w' A A'' c c'' qs ps (hq.still k) (hp.still k) (by omega) hpl hpc (by omega)
    rw [hU] at h
    exact h)
  have CT : Hid (∀ w', Kept NoBlk w w' → Calls Try.prog 7 #[.slice A' gs.length c'] w' (GaveB V w')) := Lib.hid (fun w' k => by
    have h := trimmed_any w' A' c' gs (hg.still k) hgc (by omega)
    rw [trim_eq_encT, hV] at h
    exact h)
  have CP : Hid (∀ (w' : World) (B1 B2 : Option Addr) (d1 d2 : Nat), BytesAt w' B1 U → BytesAt w' B2 V → Calls Try.prog 19 #[.slice B1 U.length d1, .slice B2 V.length d2] w' (GaveB X w')) := Lib.hid (fun w' B1 B2 d1 d2 b1 b2 => by
    have h := product_any w' B1 B2 d1 d2 U V b1 b2 (by rw [← hU]; exact hlT _ hmq) (by rw [← hV]; exact hlT _ hlt)
    rw [← hU, ← hV, num_encT, num_encT, hX, hU, hV] at h
    exact h)
  have CM2 : Hid (∀ (w' : World) (B1 : Option Addr) (d1 : Nat), Kept NoBlk w w' → BytesAt w' B1 X → Calls Try.prog 16 #[.slice B1 X.length d1, .slice A'' ps.length c''] w' (GaveB ys w')) := Lib.hid (fun w' B1 d1 k b1 => by
    have h := modulo_any w' B1 A'' d1 c'' X ps b1 (hp.still k) (by rw [← hX]; exact hlP) hpl hpc (by omega)
    rw [← hX, num_encT, hval, hys, hX] at h
    exact h)
  have hc0 : ∀ w0 : World, (convert 22 9 (.slice (some ⟨w0.heap.size, 0, none⟩) 1 1)).run Try.prog (w0.alloc (.cells #[.int .u8 1] 5)) = .ok (.string ⟨[(1 : UInt8)].toArray⟩) (w0.alloc (.cells #[.int .u8 1] 5)) := fun w0 => conv_one w0 _ (Kept.refl _ _)
  clear hq hg hp hql hgl hpl hgc hpc hlt h1 hval hPs hmq hlT hlP hU hV hX hys
  go_enter Try.func9, Try.ntmps9
  go_wp2_with fail
  go_region_with (first | (go_at_call 18; refine (CL.out _ ((Kept.refl NoBlk w).drew)).mono ?_; rintro e w1 ⟨rfl, k1'⟩; have k1 : Kept NoBlk w w1 := ((Kept.refl NoBlk w).drew).trans k1') | (go_at_call 16; (with_reducible refine (CM1.out _ ?_).mono ?_); (first | exact k1 | exact k1.alloc _); rintro e w2 ⟨A2, c2, rfl, hat2, hc2, k2'⟩; have k2 : Kept NoBlk w w2 := (by first | exact k1.none k2' | exact (k1.alloc _).none k2'); (first | (have h21 := conv_one w1 w2 k2'; have kb := k2') | (have h21 := conv_one _ w2 (kb.none k2'); replace kb := kb.none k2') | skip)) | (go_at_call 7; (with_reducible refine (CT.out _ ?_).mono ?_); (first | exact k2 | exact k2.alloc _); rintro e w3 ⟨A3, c3, rfl, hat3, hc3, k3'⟩; have k3 : Kept NoBlk w w3 := (by first | exact k2.none k3' | exact (k2.alloc _).none k3'); (first | (have h21 := conv_one w2 w3 k3'; have kb := k3') | (have h21 := conv_one _ w3 (kb.none k3'); replace kb := kb.none k3') | skip); have hat23 : BytesAt w3 A2 U := (by first | exact BytesAt.still hat2 k3' | exact BytesAt.still (BytesAt.alloc hat2 _) k3')) | (go_at_call 19; (with_reducible refine (CP.out _ _ _ _ _ ?_ ?_).mono ?_); (first | exact hat23 | exact BytesAt.alloc hat23 _); (first | exact hat3 | exact BytesAt.alloc hat3 _); rintro e w4 ⟨A4, c4, rfl, hat4, hc4, k4'⟩; have k4 : Kept NoBlk w w4 := (by first | exact k3.none k4' | exact (k3.alloc _).none k4'); (first | (have h21 := conv_one w3 w4 k4'; have kb := k4') | (have h21 := conv_one _ w4 (kb.none k4'); replace kb := kb.none k4') | skip)) | (go_at_call 16; (with_reducible refine (CM2.out _ _ _ ?_ ?_).mono ?_); (first | exact k4 | exact k4.alloc _); (first | exact hat4 | exact BytesAt.alloc hat4 _); rintro e w5 ⟨A5, c5, rfl, hat5, hc5, k5'⟩; have k5 : Kept NoBlk w w5 := (by first | exact k4.none k5' | exact (k4.alloc _).none k5'); (first | (have h21 := conv_one w4 w5 k5'; have kb := k5') | (have h21 := conv_one _ w5 (kb.none k5'); replace kb := kb.none k5') | skip); have h19 := conv_bytes w5 A5 c5 ys hat5; rw [HYS.out] at h19; have h19b := conv_bytes (w5.alloc (.cells #[.int .u8 1] 5)) A5 c5 ys (BytesAt.alloc hat5 _); rw [HYS.out] at h19b))
  all_goals
    go_wp2_with fail
    go_ret
    first | exact ⟨rfl, k5⟩ | exact ⟨rfl, k5.alloc _⟩

end Go.Proofs.Ytdmpiecdpdknaaa
