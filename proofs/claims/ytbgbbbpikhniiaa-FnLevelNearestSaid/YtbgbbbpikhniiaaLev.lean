/- walks of the level functions -/
import Derived.Test.YtbgbbbpikhniiaaRows
import Derived.WalkKit
import Derived.WalkSpells
import Derived.WalkLawsBesides
import Derived.Deep.QuietTactic
import Derived.BigQuiet
namespace Go.Proofs.Ytbgbbbpikhniiaa
open Go.RowKit

def lf (a : Int) : Int := if a < 3 then 1 else if a < 6 then 2 else if a < 10 then 3 else 4

set_option maxHeartbeats 400000 in
theorem lf_any (a : Int) (w : World) :
    Calls Try.prog 8 #[.int .i64 a] w fun e w' => e = .returned (.int .i64 (lf a)) ∧ w = w' := by
  unfold lf
  by_cases h1 : a < 3
  · go_enter Try.func8, Try.ntmps8
    go_wp2
    go_ret
    simp
  · by_cases h2 : a < 6
    · go_enter Try.func8, Try.ntmps8
      go_wp2
      go_ret
      simp
    · by_cases h3 : a < 10
      · go_enter Try.func8, Try.ntmps8
        go_wp2
        go_ret
        simp
      · go_enter Try.func8, Try.ntmps8
        go_wp2
        go_ret
        simp


theorem levels_any (w : World) :
    Calls Try.prog 7 #[] w fun e w' => e = .returned (.agg #[.int .i64 1, .int .i64 2, .int .i64 3, .int .i64 4]) ∧ Grown w w' := by
  go_enter Try.func7, Try.ntmps7
  go_wp2
  refine bodyPost_ret (v := .agg #[.int .i64 1, .int .i64 2, .int .i64 3, .int .i64 4]) (by simp [results, Try.results7, go_sem]) rfl ⟨rfl, ?_⟩
  repeat (first | exact Grown.refl _ | apply Grown.drew | apply Grown.alloc)

theorem lf_lo (a : Int) : 1 ≤ lf a := by unfold lf; split <;> (try split) <;> (try split) <;> omega
theorem lf_hi (a : Int) : lf a ≤ 4 := by unfold lf; split <;> (try split) <;> (try split) <;> omega
theorem lf_mono (a b : Int) (h : a ≤ b) : lf a ≤ lf b := by unfold lf; repeat' split <;> omega
theorem grown_drewN {w w' : World} (h : Grown w w') (n : Nat) : Grown w (w'.drewN n) := h

set_option maxHeartbeats 800000 in
theorem level_walk (a0 a1 : Int) (w : World) :
    Calls Try.prog 3 #[.int .i64 a0, .int .i64 a1] w fun e w' => e = .returned (.bool true) ∧ Grown w w' := by
  have h3 : lf 3 = 2 := by decide
  have h7 : lf 7 = 3 := by decide
  have h8 : lf 8 = 3 := by decide
  have p0 := lf_lo a0
  have p1 := lf_lo a1
  have q0 := lf_hi a0
  have q1 := lf_hi a1
  rcases Int.lt_trichotomy a0 a1 with h | rfl | h
  · have m := lf_mono a0 a1 (by omega)
    go_enter Try.func3, Try.ntmps3
    go_wp2_with (first | (go_at_call 8; refine (lf_any _ _).mono ?_; rintro e w' ⟨rfl, rfl⟩) | (go_at_call 7; refine (levels_any _).mono ?_; rintro e w' ⟨rfl, hg⟩))
    go_quiet ((go_at_call 8; exact Calls.quiet_of_same ((lf_any _ _).mono fun _ _ ⟨a, b⟩ => ⟨a, b.symm⟩)))
    go_wp2
    go_ret
    exact ⟨rfl, grown_drewN (hg.alloc _ _) _⟩
  · go_enter Try.func3, Try.ntmps3
    go_wp2_with (first | (go_at_call 8; refine (lf_any _ _).mono ?_; rintro e w' ⟨rfl, rfl⟩) | (go_at_call 7; refine (levels_any _).mono ?_; rintro e w' ⟨rfl, hg⟩))
    go_quiet ((go_at_call 8; exact Calls.quiet_of_same ((lf_any _ _).mono fun _ _ ⟨a, b⟩ => ⟨a, b.symm⟩)))
    go_wp2
    go_ret
    exact ⟨rfl, grown_drewN (hg.alloc _ _) _⟩
  · have m := lf_mono a1 a0 (by omega)
    go_enter Try.func3, Try.ntmps3
    go_wp2_with (first | (go_at_call 8; refine (lf_any _ _).mono ?_; rintro e w' ⟨rfl, rfl⟩) | (go_at_call 7; refine (levels_any _).mono ?_; rintro e w' ⟨rfl, hg⟩))
    go_quiet ((go_at_call 8; exact Calls.quiet_of_same ((lf_any _ _).mono fun _ _ ⟨a, b⟩ => ⟨a, b.symm⟩)))
    go_wp2
    go_ret
    exact ⟨rfl, grown_drewN (hg.alloc _ _) _⟩
end Go.Proofs.Ytbgbbbpikhniiaa
