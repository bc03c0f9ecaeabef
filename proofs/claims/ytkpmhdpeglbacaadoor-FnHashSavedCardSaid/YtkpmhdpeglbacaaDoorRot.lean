/-
  The small functions of XXH64: turning, rounds and merging, of the package and of the reference. Conditions: none.
-/
import Derived.Test.YtkpmhdpeglbacaaDoorRows
import Derived.Test.YtkpmhdpeglbacaaDoorSl
namespace Go.Proofs.YtkpmhdpeglbacaaDoor
open Go.RowKit

/-- a word turned to the left by k bits -/
def rot (x : Int) (k : Nat) : Int := bits .or .u64 (IntKind.u64.wrap (x * 2 ^ k)) (x / 2 ^ (64 - k))
/-- the round -/
def rnd (acc lane : Int) : Int := IntKind.u64.wrap (rot (IntKind.u64.wrap (acc + IntKind.u64.wrap (lane * 14029467366897019727))) 31 * 11400714785074694791)
/-- merging -/
def mrg (acc lane : Int) : Int := IntKind.u64.wrap (IntKind.u64.wrap (bits .xor .u64 acc (rnd 0 lane) * 11400714785074694791) + 9650029242287828579)

set_option maxHeartbeats 400000 in
theorem zTurn_any (x : Int) (k : Nat) (hk : k ≤ 63) (h0 : 0 < k) (w : World) :
    Calls Tryd.prog 20 #[.int .u64 x, .int .u64 k] w fun e w' => e = .returned (.int .u64 (rot x k)) ∧ w = w' := by
  unfold rot
  go_enter Tryd.func20, Tryd.ntmps20
  go_wp2
  go_ret
  exact ⟨rfl, rfl⟩

theorem zTurn1 (x : Int) (w : World) : Calls Tryd.prog 20 #[.int .u64 x, .int .u64 1] w fun e w' => e = .returned (.int .u64 (rot x 1)) ∧ w = w' :=
  zTurn_any x 1 (by omega) (by omega) w
theorem rot1 (x : Int) : rot x 1 = bits .or .u64 (IntKind.u64.wrap (x * 2)) (x / 9223372036854775808) := by simp [rot]
set_option maxHeartbeats 400000 in
theorem rol1_any (x : Int) (w : World) :
    Calls Tryd.prog 33 #[.int .u64 x] w fun e w' => e = .returned (.int .u64 (rot x 1)) ∧ w = w' := by
  have hb : bits BinOp.and IntKind.u64 1 63 = 1 := by kernel_rfl
  rw [rot1]
  go_enter Tryd.func33, Tryd.ntmps33
  go_wp2
  go_ret
  exact ⟨rfl, rfl⟩

theorem zTurn7 (x : Int) (w : World) : Calls Tryd.prog 20 #[.int .u64 x, .int .u64 7] w fun e w' => e = .returned (.int .u64 (rot x 7)) ∧ w = w' :=
  zTurn_any x 7 (by omega) (by omega) w
theorem rot7 (x : Int) : rot x 7 = bits .or .u64 (IntKind.u64.wrap (x * 128)) (x / 144115188075855872) := by simp [rot]
set_option maxHeartbeats 400000 in
theorem rol7_any (x : Int) (w : World) :
    Calls Tryd.prog 34 #[.int .u64 x] w fun e w' => e = .returned (.int .u64 (rot x 7)) ∧ w = w' := by
  have hb : bits BinOp.and IntKind.u64 7 63 = 7 := by kernel_rfl
  rw [rot7]
  go_enter Tryd.func34, Tryd.ntmps34
  go_wp2
  go_ret
  exact ⟨rfl, rfl⟩

theorem zTurn11 (x : Int) (w : World) : Calls Tryd.prog 20 #[.int .u64 x, .int .u64 11] w fun e w' => e = .returned (.int .u64 (rot x 11)) ∧ w = w' :=
  zTurn_any x 11 (by omega) (by omega) w
theorem rot11 (x : Int) : rot x 11 = bits .or .u64 (IntKind.u64.wrap (x * 2048)) (x / 9007199254740992) := by simp [rot]
set_option maxHeartbeats 400000 in
theorem rol11_any (x : Int) (w : World) :
    Calls Tryd.prog 41 #[.int .u64 x] w fun e w' => e = .returned (.int .u64 (rot x 11)) ∧ w = w' := by
  have hb : bits BinOp.and IntKind.u64 11 63 = 11 := by kernel_rfl
  rw [rot11]
  go_enter Tryd.func41, Tryd.ntmps41
  go_wp2
  go_ret
  exact ⟨rfl, rfl⟩

theorem zTurn12 (x : Int) (w : World) : Calls Tryd.prog 20 #[.int .u64 x, .int .u64 12] w fun e w' => e = .returned (.int .u64 (rot x 12)) ∧ w = w' :=
  zTurn_any x 12 (by omega) (by omega) w
theorem rot12 (x : Int) : rot x 12 = bits .or .u64 (IntKind.u64.wrap (x * 4096)) (x / 4503599627370496) := by simp [rot]
set_option maxHeartbeats 400000 in
theorem rol12_any (x : Int) (w : World) :
    Calls Tryd.prog 35 #[.int .u64 x] w fun e w' => e = .returned (.int .u64 (rot x 12)) ∧ w = w' := by
  have hb : bits BinOp.and IntKind.u64 12 63 = 12 := by kernel_rfl
  rw [rot12]
  go_enter Tryd.func35, Tryd.ntmps35
  go_wp2
  go_ret
  exact ⟨rfl, rfl⟩

theorem zTurn18 (x : Int) (w : World) : Calls Tryd.prog 20 #[.int .u64 x, .int .u64 18] w fun e w' => e = .returned (.int .u64 (rot x 18)) ∧ w = w' :=
  zTurn_any x 18 (by omega) (by omega) w
theorem rot18 (x : Int) : rot x 18 = bits .or .u64 (IntKind.u64.wrap (x * 262144)) (x / 70368744177664) := by simp [rot]
set_option maxHeartbeats 400000 in
theorem rol18_any (x : Int) (w : World) :
    Calls Tryd.prog 36 #[.int .u64 x] w fun e w' => e = .returned (.int .u64 (rot x 18)) ∧ w = w' := by
  have hb : bits BinOp.and IntKind.u64 18 63 = 18 := by kernel_rfl
  rw [rot18]
  go_enter Tryd.func36, Tryd.ntmps36
  go_wp2
  go_ret
  exact ⟨rfl, rfl⟩

theorem zTurn23 (x : Int) (w : World) : Calls Tryd.prog 20 #[.int .u64 x, .int .u64 23] w fun e w' => e = .returned (.int .u64 (rot x 23)) ∧ w = w' :=
  zTurn_any x 23 (by omega) (by omega) w
theorem rot23 (x : Int) : rot x 23 = bits .or .u64 (IntKind.u64.wrap (x * 8388608)) (x / 2199023255552) := by simp [rot]
set_option maxHeartbeats 400000 in
theorem rol23_any (x : Int) (w : World) :
    Calls Tryd.prog 40 #[.int .u64 x] w fun e w' => e = .returned (.int .u64 (rot x 23)) ∧ w = w' := by
  have hb : bits BinOp.and IntKind.u64 23 63 = 23 := by kernel_rfl
  rw [rot23]
  go_enter Tryd.func40, Tryd.ntmps40
  go_wp2
  go_ret
  exact ⟨rfl, rfl⟩

theorem zTurn27 (x : Int) (w : World) : Calls Tryd.prog 20 #[.int .u64 x, .int .u64 27] w fun e w' => e = .returned (.int .u64 (rot x 27)) ∧ w = w' :=
  zTurn_any x 27 (by omega) (by omega) w
theorem rot27 (x : Int) : rot x 27 = bits .or .u64 (IntKind.u64.wrap (x * 134217728)) (x / 137438953472) := by simp [rot]
set_option maxHeartbeats 400000 in
theorem rol27_any (x : Int) (w : World) :
    Calls Tryd.prog 38 #[.int .u64 x] w fun e w' => e = .returned (.int .u64 (rot x 27)) ∧ w = w' := by
  have hb : bits BinOp.and IntKind.u64 27 63 = 27 := by kernel_rfl
  rw [rot27]
  go_enter Tryd.func38, Tryd.ntmps38
  go_wp2
  go_ret
  exact ⟨rfl, rfl⟩

theorem zTurn31 (x : Int) (w : World) : Calls Tryd.prog 20 #[.int .u64 x, .int .u64 31] w fun e w' => e = .returned (.int .u64 (rot x 31)) ∧ w = w' :=
  zTurn_any x 31 (by omega) (by omega) w
theorem rot31 (x : Int) : rot x 31 = bits .or .u64 (IntKind.u64.wrap (x * 2147483648)) (x / 8589934592) := by simp [rot]
set_option maxHeartbeats 400000 in
theorem rol31_any (x : Int) (w : World) :
    Calls Tryd.prog 47 #[.int .u64 x] w fun e w' => e = .returned (.int .u64 (rot x 31)) ∧ w = w' := by
  have hb : bits BinOp.and IntKind.u64 31 63 = 31 := by kernel_rfl
  rw [rot31]
  go_enter Tryd.func47, Tryd.ntmps47
  go_wp2
  go_ret
  exact ⟨rfl, rfl⟩

set_option maxHeartbeats 400000 in
theorem zRound_any (x y : Int) (w : World) :
    Calls Tryd.prog 18 #[.int .u64 x, .int .u64 y] w fun e w' => e = .returned (.int .u64 (rnd x y)) ∧ w = w' := by
  unfold rnd
  go_enter Tryd.func18, Tryd.ntmps18
  go_wp2_with (go_at_call 20; refine (zTurn31 _ _).mono ?_; rintro e w' ⟨rfl, rfl⟩)
  go_ret
  exact ⟨rfl, rfl⟩
set_option maxHeartbeats 400000 in
theorem round_any (x y : Int) (w : World) :
    Calls Tryd.prog 31 #[.int .u64 x, .int .u64 y] w fun e w' => e = .returned (.int .u64 (rnd x y)) ∧ w = w' := by
  unfold rnd
  go_enter Tryd.func31, Tryd.ntmps31
  go_wp2_with (go_at_call 47; refine (rol31_any _ _).mono ?_; rintro e w' ⟨rfl, rfl⟩)
  go_ret
  exact ⟨rfl, rfl⟩
set_option maxHeartbeats 400000 in
theorem zMerge_any (x y : Int) (w : World) :
    Calls Tryd.prog 42 #[.int .u64 x, .int .u64 y] w fun e w' => e = .returned (.int .u64 (mrg x y)) ∧ w = w' := by
  unfold mrg
  go_enter Tryd.func42, Tryd.ntmps42
  go_wp2_with (go_at_call 18; refine (zRound_any _ _ _).mono ?_; rintro e w' ⟨rfl, rfl⟩)
  go_ret
  exact ⟨rfl, rfl⟩
set_option maxHeartbeats 400000 in
theorem mergeRound_any (x y : Int) (w : World) :
    Calls Tryd.prog 37 #[.int .u64 x, .int .u64 y] w fun e w' => e = .returned (.int .u64 (mrg x y)) ∧ w = w' := by
  unfold mrg
  go_enter Tryd.func37, Tryd.ntmps37
  go_wp2_with (go_at_call 31; refine (round_any _ _ _).mono ?_; rintro e w' ⟨rfl, rfl⟩)
  go_ret
  exact ⟨rfl, rfl⟩
end Go.Proofs.YtkpmhdpeglbacaaDoor
