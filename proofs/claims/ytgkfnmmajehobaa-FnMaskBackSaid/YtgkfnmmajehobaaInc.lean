/-
  incCounter: a counter of four bytes, the highest first, becomes one more.
-/
import Derived.Test.YtgkfnmmajehobaaProg
import Derived.Test.YtgkfnmmajehobaaMem
import Derived.KernelRfl
namespace Go.Proofs.Ytgkfnmmajehobaa
open Go.RowKit

/-- The four bytes of a counter, the highest first. -/
def be4 (n : Int) : Array Value := #[.int .u8 (n / 16777216 % 256), .int .u8 (n / 65536 % 256), .int .u8 (n / 256 % 256), .int .u8 (n % 256)]

theorem inc_walk3 (b : Nat) (c3 : Int) (w : World) (h3 : w.cell? ⟨b, 3, none⟩ = some (.int .u8 c3)) (f3 : w.frozen? ⟨b, 3, none⟩ = false) (t3 : ((c3 + 1) % 256 != 0) = true) :
    Calls Try.prog 13 #[.pointer (some ⟨b, 0, none⟩)] w fun e w' => e = .returned (.tuple #[]) ∧ w' = (w.setCell ⟨b, 3, none⟩ (.int .u8 ((c3 + 1) % 256))).drew := by
  go_enter Try.func13, Try.ntmps13
  go_wp2
  go_region
  go_wp2
  refine bodyPost_ret (results_none rfl _ _ _) rfl ?_
  exact ⟨rfl, rfl⟩

theorem inc_walk2 (b : Nat) (c3 c2 : Int) (w : World) (h3 : w.cell? ⟨b, 3, none⟩ = some (.int .u8 c3)) (f3 : w.frozen? ⟨b, 3, none⟩ = false) (h2 : w.cell? ⟨b, 2, none⟩ = some (.int .u8 c2)) (f2 : w.frozen? ⟨b, 2, none⟩ = false) (t3 : ((c3 + 1) % 256 != 0) = false) (t2 : ((c2 + 1) % 256 != 0) = true) :
    Calls Try.prog 13 #[.pointer (some ⟨b, 0, none⟩)] w fun e w' => e = .returned (.tuple #[]) ∧ w' = ((w.setCell ⟨b, 3, none⟩ (.int .u8 ((c3 + 1) % 256))).setCell ⟨b, 2, none⟩ (.int .u8 ((c2 + 1) % 256))).drew.drew := by
  go_enter Try.func13, Try.ntmps13
  go_wp2
  go_region
  go_wp2
  go_region
  go_wp2
  refine bodyPost_ret (results_none rfl _ _ _) rfl ?_
  exact ⟨rfl, rfl⟩

theorem inc_walk1 (b : Nat) (c3 c2 c1 : Int) (w : World) (h3 : w.cell? ⟨b, 3, none⟩ = some (.int .u8 c3)) (f3 : w.frozen? ⟨b, 3, none⟩ = false) (h2 : w.cell? ⟨b, 2, none⟩ = some (.int .u8 c2)) (f2 : w.frozen? ⟨b, 2, none⟩ = false) (h1 : w.cell? ⟨b, 1, none⟩ = some (.int .u8 c1)) (f1 : w.frozen? ⟨b, 1, none⟩ = false) (t3 : ((c3 + 1) % 256 != 0) = false) (t2 : ((c2 + 1) % 256 != 0) = false) (t1 : ((c1 + 1) % 256 != 0) = true) :
    Calls Try.prog 13 #[.pointer (some ⟨b, 0, none⟩)] w fun e w' => e = .returned (.tuple #[]) ∧ w' = (((w.setCell ⟨b, 3, none⟩ (.int .u8 ((c3 + 1) % 256))).setCell ⟨b, 2, none⟩ (.int .u8 ((c2 + 1) % 256))).setCell ⟨b, 1, none⟩ (.int .u8 ((c1 + 1) % 256))).drew.drew.drew := by
  go_enter Try.func13, Try.ntmps13
  go_wp2
  go_region
  go_wp2
  go_region
  go_wp2
  go_region
  go_wp2
  refine bodyPost_ret (results_none rfl _ _ _) rfl ?_
  exact ⟨rfl, rfl⟩

theorem inc_walk0 (b : Nat) (c3 c2 c1 c0 : Int) (w : World) (h3 : w.cell? ⟨b, 3, none⟩ = some (.int .u8 c3)) (f3 : w.frozen? ⟨b, 3, none⟩ = false) (h2 : w.cell? ⟨b, 2, none⟩ = some (.int .u8 c2)) (f2 : w.frozen? ⟨b, 2, none⟩ = false) (h1 : w.cell? ⟨b, 1, none⟩ = some (.int .u8 c1)) (f1 : w.frozen? ⟨b, 1, none⟩ = false) (h0 : w.cell? ⟨b, 0, none⟩ = some (.int .u8 c0)) (f0 : w.frozen? ⟨b, 0, none⟩ = false) (t3 : ((c3 + 1) % 256 != 0) = false) (t2 : ((c2 + 1) % 256 != 0) = false) (t1 : ((c1 + 1) % 256 != 0) = false) :
    Calls Try.prog 13 #[.pointer (some ⟨b, 0, none⟩)] w fun e w' => e = .returned (.tuple #[]) ∧ w' = ((((w.setCell ⟨b, 3, none⟩ (.int .u8 ((c3 + 1) % 256))).setCell ⟨b, 2, none⟩ (.int .u8 ((c2 + 1) % 256))).setCell ⟨b, 1, none⟩ (.int .u8 ((c1 + 1) % 256))).setCell ⟨b, 0, none⟩ (.int .u8 ((c0 + 1) % 256))).drew.drew.drew.drew := by
  go_enter Try.func13, Try.ntmps13
  go_wp2
  go_region
  go_wp2
  go_region
  go_wp2
  go_region
  go_wp2
  go_region
  go_wp2
  refine bodyPost_end (results_none rfl _ _ _) rfl ?_
  exact ⟨rfl, rfl⟩

theorem be4_eq {n m : Int} (h0 : n / 16777216 % 256 = m / 16777216 % 256) (h1 : n / 65536 % 256 = m / 65536 % 256) (h2 : n / 256 % 256 = m / 256 % 256) (h3 : n % 256 = m % 256) : be4 n = be4 m := by
  unfold be4; rw [h0, h1, h2, h3]

theorem inc_any (b : Nat) (t : TypeId) (n : Int) (w : World) (hb : Blk w b t (be4 n)) :
    Calls Try.prog 13 #[.pointer (some ⟨b, 0, none⟩)] w fun e w' => e = .returned (.tuple #[]) ∧ Blk w' b t (be4 (n + 1)) ∧ Kept (OneBlk b) w w' := by
  have h0 : w.cell? ⟨b, 0, none⟩ = some (.int .u8 (n / 16777216 % 256)) := hb.cellIs rfl
  have h1 : w.cell? ⟨b, 1, none⟩ = some (.int .u8 (n / 65536 % 256)) := hb.cellIs rfl
  have h2 : w.cell? ⟨b, 2, none⟩ = some (.int .u8 (n / 256 % 256)) := hb.cellIs rfl
  have h3 : w.cell? ⟨b, 3, none⟩ = some (.int .u8 (n % 256)) := hb.cellIs rfl
  have key : ∀ (x y : Array Value), x = y → ∀ {w' : World}, Blk w' b t x → Blk w' b t y := fun x y e w' h => e ▸ h
  by_cases c3 : n % 256 = 255
  · by_cases c2 : n / 256 % 256 = 255
    · by_cases c1 : n / 65536 % 256 = 255
      · refine (inc_walk0 b _ _ _ _ w h3 (hb.frozen 3) h2 (hb.frozen 2) h1 (hb.frozen 1) h0 (hb.frozen 0) (by rw [c3]; rfl) (by rw [c2]; rfl) (by rw [c1]; rfl)).mono ?_
        rintro e w' ⟨rfl, rfl⟩
        refine ⟨rfl, key _ _ ?_ ((((((((hb.set_ 3 _).set_ 2 _).set_ 1 _).set_ 0 _).drew).drew).drew).drew), by repeat (first | exact Kept.refl _ _ | apply Kept.drew | apply Kept.setOne)⟩
        show #[Value.int .u8 ((n / 16777216 % 256 + 1) % 256), .int .u8 ((n / 65536 % 256 + 1) % 256), .int .u8 ((n / 256 % 256 + 1) % 256), .int .u8 ((n % 256 + 1) % 256)] = be4 (n + 1)
        unfold be4
        rw [show (n / 16777216 % 256 + 1) % 256 = (n + 1) / 16777216 % 256 by omega, show (n / 65536 % 256 + 1) % 256 = (n + 1) / 65536 % 256 by omega,
          show (n / 256 % 256 + 1) % 256 = (n + 1) / 256 % 256 by omega, show (n % 256 + 1) % 256 = (n + 1) % 256 by omega]
      · refine (inc_walk1 b _ _ _ w h3 (hb.frozen 3) h2 (hb.frozen 2) h1 (hb.frozen 1) (by rw [c3]; rfl) (by rw [c2]; rfl) (by rw [bne_iff_ne]; omega)).mono ?_
        rintro e w' ⟨rfl, rfl⟩
        refine ⟨rfl, key _ _ ?_ ((((((hb.set_ 3 _).set_ 2 _).set_ 1 _).drew).drew).drew), by repeat (first | exact Kept.refl _ _ | apply Kept.drew | apply Kept.setOne)⟩
        show #[Value.int .u8 (n / 16777216 % 256), .int .u8 ((n / 65536 % 256 + 1) % 256), .int .u8 ((n / 256 % 256 + 1) % 256), .int .u8 ((n % 256 + 1) % 256)] = be4 (n + 1)
        unfold be4
        rw [show n / 16777216 % 256 = (n + 1) / 16777216 % 256 by omega, show (n / 65536 % 256 + 1) % 256 = (n + 1) / 65536 % 256 by omega,
          show (n / 256 % 256 + 1) % 256 = (n + 1) / 256 % 256 by omega, show (n % 256 + 1) % 256 = (n + 1) % 256 by omega]
    · refine (inc_walk2 b _ _ w h3 (hb.frozen 3) h2 (hb.frozen 2) (by rw [c3]; rfl) (by rw [bne_iff_ne]; omega)).mono ?_
      rintro e w' ⟨rfl, rfl⟩
      refine ⟨rfl, key _ _ ?_ ((((hb.set_ 3 _).set_ 2 _).drew).drew), by repeat (first | exact Kept.refl _ _ | apply Kept.drew | apply Kept.setOne)⟩
      show #[Value.int .u8 (n / 16777216 % 256), .int .u8 (n / 65536 % 256), .int .u8 ((n / 256 % 256 + 1) % 256), .int .u8 ((n % 256 + 1) % 256)] = be4 (n + 1)
      unfold be4
      rw [show n / 16777216 % 256 = (n + 1) / 16777216 % 256 by omega, show n / 65536 % 256 = (n + 1) / 65536 % 256 by omega,
        show (n / 256 % 256 + 1) % 256 = (n + 1) / 256 % 256 by omega, show (n % 256 + 1) % 256 = (n + 1) % 256 by omega]
  · refine (inc_walk3 b _ w h3 (hb.frozen 3) (by rw [bne_iff_ne]; omega)).mono ?_
    rintro e w' ⟨rfl, rfl⟩
    refine ⟨rfl, key _ _ ?_ ((hb.set_ 3 _).drew), by repeat (first | exact Kept.refl _ _ | apply Kept.drew | apply Kept.setOne)⟩
    show #[Value.int .u8 (n / 16777216 % 256), .int .u8 (n / 65536 % 256), .int .u8 (n / 256 % 256), .int .u8 ((n % 256 + 1) % 256)] = be4 (n + 1)
    unfold be4
    rw [show n / 16777216 % 256 = (n + 1) / 16777216 % 256 by omega, show n / 65536 % 256 = (n + 1) / 65536 % 256 by omega,
      show n / 256 % 256 = (n + 1) / 256 % 256 by omega, show (n % 256 + 1) % 256 = (n + 1) % 256 by omega]

end Go.Proofs.Ytgkfnmmajehobaa
