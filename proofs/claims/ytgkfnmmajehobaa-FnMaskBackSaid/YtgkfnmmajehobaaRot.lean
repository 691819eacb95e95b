/-
  math/bits.RotateLeft32 by the ten numbers that SHA-256 wants (printed by gen_sha.py).
-/
import Derived.Test.YtgkfnmmajehobaaOwnW
namespace Go.Proofs.Ytgkfnmmajehobaa
open Go.RowKit

def rr2 (x : Int) : Int := bits .or .u32 (x * 1073741824 % 4294967296) (x / 4)
theorem rot_2 (x : Int) (w : World) : Calls Try.prog 40 #[.int .u32 x, .int .i64 (-2)] w fun e w' => e = .returned (.int .u32 (rr2 x)) ∧ w' = w := by
  have e1 : bits .and .u64 (IntKind.u64.wrap (-2)) 31 = 30 := by decide
  have e2 : IntKind.u64.wrap ((32 : Int) - 30) = 2 := by decide
  go_enter Try.func40, Try.ntmps40
  go_wp2_with fail
  go_ret
  exact ⟨rfl, rfl⟩
theorem rotq_2 (x : Int) (w : World) (n : Nat) : Calls Try.prog 40 #[.int .u32 x, .int .i64 (-2)] (w.drewN n) fun e w' => e = .returned (.int .u32 (rr2 x)) ∧ ∃ m, w' = w.drewN m := (rot_2 x (w.drewN n)).mono fun _ _ ⟨he, hm⟩ => ⟨he, n, hm⟩

def rr6 (x : Int) : Int := bits .or .u32 (x * 67108864 % 4294967296) (x / 64)
theorem rot_6 (x : Int) (w : World) : Calls Try.prog 40 #[.int .u32 x, .int .i64 (-6)] w fun e w' => e = .returned (.int .u32 (rr6 x)) ∧ w' = w := by
  have e1 : bits .and .u64 (IntKind.u64.wrap (-6)) 31 = 26 := by decide
  have e2 : IntKind.u64.wrap ((32 : Int) - 26) = 6 := by decide
  go_enter Try.func40, Try.ntmps40
  go_wp2_with fail
  go_ret
  exact ⟨rfl, rfl⟩
theorem rotq_6 (x : Int) (w : World) (n : Nat) : Calls Try.prog 40 #[.int .u32 x, .int .i64 (-6)] (w.drewN n) fun e w' => e = .returned (.int .u32 (rr6 x)) ∧ ∃ m, w' = w.drewN m := (rot_6 x (w.drewN n)).mono fun _ _ ⟨he, hm⟩ => ⟨he, n, hm⟩

def rr7 (x : Int) : Int := bits .or .u32 (x * 33554432 % 4294967296) (x / 128)
theorem rot_7 (x : Int) (w : World) : Calls Try.prog 40 #[.int .u32 x, .int .i64 (-7)] w fun e w' => e = .returned (.int .u32 (rr7 x)) ∧ w' = w := by
  have e1 : bits .and .u64 (IntKind.u64.wrap (-7)) 31 = 25 := by decide
  have e2 : IntKind.u64.wrap ((32 : Int) - 25) = 7 := by decide
  go_enter Try.func40, Try.ntmps40
  go_wp2_with fail
  go_ret
  exact ⟨rfl, rfl⟩
theorem rotq_7 (x : Int) (w : World) (n : Nat) : Calls Try.prog 40 #[.int .u32 x, .int .i64 (-7)] (w.drewN n) fun e w' => e = .returned (.int .u32 (rr7 x)) ∧ ∃ m, w' = w.drewN m := (rot_7 x (w.drewN n)).mono fun _ _ ⟨he, hm⟩ => ⟨he, n, hm⟩

def rr11 (x : Int) : Int := bits .or .u32 (x * 2097152 % 4294967296) (x / 2048)
theorem rot_11 (x : Int) (w : World) : Calls Try.prog 40 #[.int .u32 x, .int .i64 (-11)] w fun e w' => e = .returned (.int .u32 (rr11 x)) ∧ w' = w := by
  have e1 : bits .and .u64 (IntKind.u64.wrap (-11)) 31 = 21 := by decide
  have e2 : IntKind.u64.wrap ((32 : Int) - 21) = 11 := by decide
  go_enter Try.func40, Try.ntmps40
  go_wp2_with fail
  go_ret
  exact ⟨rfl, rfl⟩
theorem rotq_11 (x : Int) (w : World) (n : Nat) : Calls Try.prog 40 #[.int .u32 x, .int .i64 (-11)] (w.drewN n) fun e w' => e = .returned (.int .u32 (rr11 x)) ∧ ∃ m, w' = w.drewN m := (rot_11 x (w.drewN n)).mono fun _ _ ⟨he, hm⟩ => ⟨he, n, hm⟩

def rr13 (x : Int) : Int := bits .or .u32 (x * 524288 % 4294967296) (x / 8192)
theorem rot_13 (x : Int) (w : World) : Calls Try.prog 40 #[.int .u32 x, .int .i64 (-13)] w fun e w' => e = .returned (.int .u32 (rr13 x)) ∧ w' = w := by
  have e1 : bits .and .u64 (IntKind.u64.wrap (-13)) 31 = 19 := by decide
  have e2 : IntKind.u64.wrap ((32 : Int) - 19) = 13 := by decide
  go_enter Try.func40, Try.ntmps40
  go_wp2_with fail
  go_ret
  exact ⟨rfl, rfl⟩
theorem rotq_13 (x : Int) (w : World) (n : Nat) : Calls Try.prog 40 #[.int .u32 x, .int .i64 (-13)] (w.drewN n) fun e w' => e = .returned (.int .u32 (rr13 x)) ∧ ∃ m, w' = w.drewN m := (rot_13 x (w.drewN n)).mono fun _ _ ⟨he, hm⟩ => ⟨he, n, hm⟩

def rr17 (x : Int) : Int := bits .or .u32 (x * 32768 % 4294967296) (x / 131072)
theorem rot_17 (x : Int) (w : World) : Calls Try.prog 40 #[.int .u32 x, .int .i64 (-17)] w fun e w' => e = .returned (.int .u32 (rr17 x)) ∧ w' = w := by
  have e1 : bits .and .u64 (IntKind.u64.wrap (-17)) 31 = 15 := by decide
  have e2 : IntKind.u64.wrap ((32 : Int) - 15) = 17 := by decide
  go_enter Try.func40, Try.ntmps40
  go_wp2_with fail
  go_ret
  exact ⟨rfl, rfl⟩
theorem rotq_17 (x : Int) (w : World) (n : Nat) : Calls Try.prog 40 #[.int .u32 x, .int .i64 (-17)] (w.drewN n) fun e w' => e = .returned (.int .u32 (rr17 x)) ∧ ∃ m, w' = w.drewN m := (rot_17 x (w.drewN n)).mono fun _ _ ⟨he, hm⟩ => ⟨he, n, hm⟩

def rr18 (x : Int) : Int := bits .or .u32 (x * 16384 % 4294967296) (x / 262144)
theorem rot_18 (x : Int) (w : World) : Calls Try.prog 40 #[.int .u32 x, .int .i64 (-18)] w fun e w' => e = .returned (.int .u32 (rr18 x)) ∧ w' = w := by
  have e1 : bits .and .u64 (IntKind.u64.wrap (-18)) 31 = 14 := by decide
  have e2 : IntKind.u64.wrap ((32 : Int) - 14) = 18 := by decide
  go_enter Try.func40, Try.ntmps40
  go_wp2_with fail
  go_ret
  exact ⟨rfl, rfl⟩
theorem rotq_18 (x : Int) (w : World) (n : Nat) : Calls Try.prog 40 #[.int .u32 x, .int .i64 (-18)] (w.drewN n) fun e w' => e = .returned (.int .u32 (rr18 x)) ∧ ∃ m, w' = w.drewN m := (rot_18 x (w.drewN n)).mono fun _ _ ⟨he, hm⟩ => ⟨he, n, hm⟩

def rr19 (x : Int) : Int := bits .or .u32 (x * 8192 % 4294967296) (x / 524288)
theorem rot_19 (x : Int) (w : World) : Calls Try.prog 40 #[.int .u32 x, .int .i64 (-19)] w fun e w' => e = .returned (.int .u32 (rr19 x)) ∧ w' = w := by
  have e1 : bits .and .u64 (IntKind.u64.wrap (-19)) 31 = 13 := by decide
  have e2 : IntKind.u64.wrap ((32 : Int) - 13) = 19 := by decide
  go_enter Try.func40, Try.ntmps40
  go_wp2_with fail
  go_ret
  exact ⟨rfl, rfl⟩
theorem rotq_19 (x : Int) (w : World) (n : Nat) : Calls Try.prog 40 #[.int .u32 x, .int .i64 (-19)] (w.drewN n) fun e w' => e = .returned (.int .u32 (rr19 x)) ∧ ∃ m, w' = w.drewN m := (rot_19 x (w.drewN n)).mono fun _ _ ⟨he, hm⟩ => ⟨he, n, hm⟩

def rr22 (x : Int) : Int := bits .or .u32 (x * 1024 % 4294967296) (x / 4194304)
theorem rot_22 (x : Int) (w : World) : Calls Try.prog 40 #[.int .u32 x, .int .i64 (-22)] w fun e w' => e = .returned (.int .u32 (rr22 x)) ∧ w' = w := by
  have e1 : bits .and .u64 (IntKind.u64.wrap (-22)) 31 = 10 := by decide
  have e2 : IntKind.u64.wrap ((32 : Int) - 10) = 22 := by decide
  go_enter Try.func40, Try.ntmps40
  go_wp2_with fail
  go_ret
  exact ⟨rfl, rfl⟩
theorem rotq_22 (x : Int) (w : World) (n : Nat) : Calls Try.prog 40 #[.int .u32 x, .int .i64 (-22)] (w.drewN n) fun e w' => e = .returned (.int .u32 (rr22 x)) ∧ ∃ m, w' = w.drewN m := (rot_22 x (w.drewN n)).mono fun _ _ ⟨he, hm⟩ => ⟨he, n, hm⟩

def rr25 (x : Int) : Int := bits .or .u32 (x * 128 % 4294967296) (x / 33554432)
theorem rot_25 (x : Int) (w : World) : Calls Try.prog 40 #[.int .u32 x, .int .i64 (-25)] w fun e w' => e = .returned (.int .u32 (rr25 x)) ∧ w' = w := by
  have e1 : bits .and .u64 (IntKind.u64.wrap (-25)) 31 = 7 := by decide
  have e2 : IntKind.u64.wrap ((32 : Int) - 7) = 25 := by decide
  go_enter Try.func40, Try.ntmps40
  go_wp2_with fail
  go_ret
  exact ⟨rfl, rfl⟩
theorem rotq_25 (x : Int) (w : World) (n : Nat) : Calls Try.prog 40 #[.int .u32 x, .int .i64 (-25)] (w.drewN n) fun e w' => e = .returned (.int .u32 (rr25 x)) ∧ ∃ m, w' = w.drewN m := (rot_25 x (w.drewN n)).mono fun _ _ ⟨he, hm⟩ => ⟨he, n, hm⟩

end Go.Proofs.Ytgkfnmmajehobaa
