/- walks of the greatest length of a block -/
import Derived.Test.YtbgbbbpikhniiaaRows
import Derived.WalkKit
import Derived.WalkSpells
import Derived.WalkLawsBesides
import Derived.Deep.QuietTactic
import Derived.BigQuiet
import Derived.Lib.Hide
namespace Go.Proofs.Ytbgbbbpikhniiaa
open Go.RowKit

def mel (n : Int) : Int := if 4294967295 < n then -1 else if 4294967295 < 32 + n + n / 6 then -1 else 32 + n + n / 6

theorem mel_big (n : Int) (h : 4294967295 < n) : mel n = -1 := by unfold mel; rw [if_pos h]
theorem mel_mid (n : Int) (h : ¬ 4294967295 < n) (h2 : 4294967295 < 32 + n + n / 6) : mel n = -1 := by unfold mel; rw [if_neg h, if_pos h2]
theorem mel_low (n : Int) (h : ¬ 4294967295 < n) (h2 : ¬ 4294967295 < 32 + n + n / 6) : mel n = 32 + n + n / 6 := by unfold mel; rw [if_neg h, if_neg h2]

set_option maxHeartbeats 400000 in
theorem mel_any (n : Int) (w : World) (h0 : 0 ≤ n) (hb : n ≤ 2199023255552) :
    Calls Try.prog 9 #[.int .i64 n] w fun e w' => e = .returned (.int .i64 (mel n)) ∧ w = w' := by
  by_cases h1 : 4294967295 < n
  · rw [mel_big n h1]
    go_enter Try.func9, Try.ntmps9
    go_wp2
    go_ret
    simp
  · by_cases h2 : 4294967295 < 32 + n + n / 6
    · rw [mel_mid n h1 h2]
      go_enter Try.func9, Try.ntmps9
      go_wp2
      go_ret
      simp
    · rw [mel_low n h1 h2]
      go_enter Try.func9, Try.ntmps9
      go_wp2
      go_ret
      simp

set_option maxHeartbeats 800000 in
theorem most_walk (a0 a1 : Int) (w : World) :
    Calls Try.prog 4 #[.int .i64 a0, .int .i64 a1] w fun e w' => e = .returned (.bool true) ∧ Grown w w' := by
  by_cases c1 : a0 < 0
  · go_enter Try.func4, Try.ntmps4
    go_wp2
    go_ret
    exact ⟨rfl, Grown.refl _⟩
  by_cases c2 : a1 < 0
  · go_enter Try.func4, Try.ntmps4
    go_wp2
    go_ret
    exact ⟨rfl, Grown.refl _⟩
  by_cases c3 : 1099511627776 < a0
  · go_enter Try.func4, Try.ntmps4
    go_wp2
    go_ret
    exact ⟨rfl, Grown.refl _⟩
  by_cases c4 : 1099511627776 < a1
  · go_enter Try.func4, Try.ntmps4
    go_wp2
    go_ret
    exact ⟨rfl, Grown.refl _⟩
  obtain ⟨x, hx⟩ : ∃ x, x = mel a0 := ⟨_, rfl⟩
  obtain ⟨y, hy⟩ : ∃ y, y = mel (a0 + a1) := ⟨_, rfl⟩
  have k1 : ∀ w, Calls Try.prog 9 #[.int .i64 a0] w fun e w' => e = .returned (.int .i64 x) ∧ w = w' := fun w => by rw [hx]; exact mel_any a0 w (by omega) (by omega)
  have k2 : ∀ w, Calls Try.prog 9 #[.int .i64 (a0 + a1)] w fun e w' => e = .returned (.int .i64 y) ∧ w = w' := fun w => by rw [hy]; exact mel_any (a0 + a1) w (by omega) (by omega)
  have K1 := Lib.hid k1
  have K2 := Lib.hid k2
  clear k1 k2
  by_cases c5 : 4294967296 ≤ a0
  · have e1 : x < 0 := by rw [hx, mel_big a0 (by omega)]; omega
    have e2 : y < 0 := by rw [hy, mel_big _ (by omega)]; omega
    clear hx hy
    go_enter Try.func4, Try.ntmps4
    go_wp2_with fail
    refine (K1.out _).mono ?_
    rintro e w' ⟨rfl, rfl⟩
    go_wp2_with fail
    refine (K2.out _).mono ?_
    rintro e w' ⟨rfl, rfl⟩
    go_wp2
    go_ret
    exact ⟨rfl, Grown.refl _⟩
  · have e1 : 2147483648 < a0 ∨ (a0 ≤ x ∧ 0 < x) := by rw [hx]; unfold mel; repeat' split <;> omega
    have e2 : x < 0 ∨ y < 0 ∨ x ≤ y := by rw [hx, hy]; unfold mel; repeat' split <;> omega
    have e3 : 0 ≤ x ∨ y < 0 := by rw [hx, hy]; unfold mel; repeat' split <;> omega
    clear hx hy
    by_cases d1 : 2147483648 < a0 <;> by_cases d2 : x < 0 <;> by_cases d3 : y < 0
    all_goals first
      | (exfalso; omega)
      | (have f2 : x ≤ y := by omega)
      | skip
    all_goals
      go_enter Try.func4, Try.ntmps4
      go_wp2_with fail
      refine (K1.out _).mono ?_
      rintro e w' ⟨rfl, rfl⟩
      go_wp2_with fail
      refine (K2.out _).mono ?_
      rintro e w' ⟨rfl, rfl⟩
      go_wp2
      go_ret
      first | exact ⟨rfl, Grown.refl _⟩ | exact ⟨by simp; omega, Grown.refl _⟩
end Go.Proofs.Ytbgbbbpikhniiaa
