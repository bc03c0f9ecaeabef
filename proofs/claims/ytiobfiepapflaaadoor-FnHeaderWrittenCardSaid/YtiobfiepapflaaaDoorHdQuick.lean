/-
  FnHeaderWritten where it looks at nothing; a window is a power of two. Conditions: those of each.
-/
import Derived.Test.YtiobfiepapflaaaDoorHdTo
import Derived.Laws.Bits64b
namespace Go.Proofs.YtiobfiepapflaaaDoor
open Go.RowKit

theorem pow_two_nat (W : Nat) (h : W &&& (W - 1) = 0) (h1 : 1 ≤ W) : W = 2 ^ W.log2 := by
  have h2 : 2 ^ W.log2 ≤ W := Nat.log2_self_le (by omega)
  have h3 : W < 2 ^ (W.log2 + 1) := Nat.lt_log2_self
  rcases Nat.lt_or_ge (2 ^ W.log2) W with hlt | hge
  · exfalso
    have t1 : W.testBit W.log2 = true := Nat.testBit_of_two_pow_le_and_two_pow_add_one_gt h2 h3
    have t2 : (W - 1).testBit W.log2 = true := Nat.testBit_of_two_pow_le_and_two_pow_add_one_gt (by omega) (by omega)
    have := congrArg (fun n => n.testBit W.log2) h
    simp [Nat.testBit_and, t1, t2] at this
  · omega
theorem win_pow (win : Int) (h1 : 1024 ≤ win) (h2 : win ≤ 2147483648) (h3 : bits .and .u64 win (win - 1) = 0) : ∃ e : Nat, 10 ≤ e ∧ e ≤ 31 ∧ win = ((2 ^ e : Nat) : Int) := by
  obtain ⟨W, rfl⟩ := Int.eq_ofNat_of_zero_le (show 0 ≤ win by omega)
  rw [show ((W : Int) - 1) = ((W - 1 : Nat) : Int) by omega, bits_and_u64_nat W (W - 1) (by omega) (by omega)] at h3
  have hp := pow_two_nat W (by omega) (by omega)
  refine ⟨W.log2, ?_, ?_, by rw [← hp]⟩
  · rcases Nat.lt_or_ge W.log2 10 with h | h
    · have := Nat.pow_lt_pow_right (a := 2) (by omega) h; omega
    · exact h
  · rcases Nat.lt_or_ge 31 W.log2 with h | h
    · have := Nat.pow_lt_pow_right (a := 2) (by omega) h; omega
    · exact h

set_option maxRecDepth 100000 in
set_option maxHeartbeats 1600000 in
theorem wr_quick (w : World) (s : Bool) (win dict : Int) (has : Bool) (size : Int) (skip : Bool) (id ssz hs : Int) (ck ok last comp : Bool) (out inn : Int)
    (h : (skip = true ∧ id < 0) ∨ (skip = true ∧ 0 ≤ id ∧ 15 < id) ∨ (skip = false ∧ s = true ∧ has = false) ∨ (skip = false ∧ s = false ∧ win < 1024) ∨ (skip = false ∧ s = false ∧ 1024 ≤ win ∧ 2147483648 < win) ∨
      (skip = false ∧ s = false ∧ 1024 ≤ win ∧ win ≤ 2147483648 ∧ bits .and .u64 win (win - 1) ≠ 0) ∨ (skip = false ∧ s = false ∧ 1024 ≤ win ∧ win ≤ 2147483648 ∧ bits .and .u64 win (win - 1) = 0 ∧ has = true ∧ size < 256) ∨
      (skip = false ∧ s = false ∧ 1024 ≤ win ∧ win ≤ 2147483648 ∧ bits .and .u64 win (win - 1) = 0 ∧ has = false ∧ size ≠ 0)) :
    Calls Tryd.prog 5 #[.agg (ihA s win dict has size skip id ssz hs ck ok last comp out inn)] w fun e w' => e = .returned (.bool true) ∧ Below w.heap.size w w' := by
  have HB := (alloc2_facts (wa := w) rfl (.cells (ihA s win dict has size skip id ssz hs ck ok last comp out inn) 28) (.cells (ihA s 0 dict has size false 0 0 0 ck false false false 0 0) 28)).2.2.2
  rcases h with ⟨rfl, h1⟩ | ⟨rfl, h1, h2⟩ | ⟨rfl, rfl, rfl⟩ | ⟨rfl, rfl, h1⟩ | ⟨rfl, rfl, h1, h2⟩ | ⟨rfl, rfl, h1, h2, h3⟩ | ⟨rfl, rfl, h1, h2, h3, rfl, h4⟩ | ⟨rfl, rfl, h1, h2, h3, rfl, h4⟩
  · go_enter Tryd.func5, Tryd.ntmps5
    go_wp2_with fail
    go_ret
    exact ⟨rfl, HB⟩
  · go_enter Tryd.func5, Tryd.ntmps5
    go_wp2_with fail
    go_ret
    exact ⟨rfl, HB⟩
  · go_enter Tryd.func5, Tryd.ntmps5
    go_wp2_with fail
    go_ret
    exact ⟨rfl, HB⟩
  · have hd1 : decide (win < 1024) = true := decide_eq_true h1
    go_enter Tryd.func5, Tryd.ntmps5
    go_wp2_with fail
    go_ret
    exact ⟨rfl, HB⟩
  · have hd1 : decide (win < 1024) = false := decide_eq_false (by omega)
    have hd2 : decide (2147483648 < win) = true := decide_eq_true h2
    go_enter Tryd.func5, Tryd.ntmps5
    go_wp2_with fail
    go_ret
    exact ⟨rfl, HB⟩
  · have hd1 : decide (win < 1024) = false := decide_eq_false (by omega)
    have hd2 : decide (2147483648 < win) = false := decide_eq_false (by omega)
    have hw4 : IntKind.u64.wrap (win - 1) = win - 1 := by rw [IntKind.wrap_u64]; omega
    obtain ⟨X, hX⟩ : ∃ X, bits .and .u64 win (win - 1) = X := ⟨_, rfl⟩
    rw [hX] at h3
    have hx1 : (X == 0) = false := by simpa using h3
    have hx2 : decide (X = 0) = false := decide_eq_false h3
    go_enter Tryd.func5, Tryd.ntmps5
    go_wp2_with fail
    go_ret
    exact ⟨rfl, HB⟩
  · have hd1 : decide (win < 1024) = false := decide_eq_false (by omega)
    have hd2 : decide (2147483648 < win) = false := decide_eq_false (by omega)
    have hw4 : IntKind.u64.wrap (win - 1) = win - 1 := by rw [IntKind.wrap_u64]; omega
    have hd4 : decide (size < 256) = true := decide_eq_true h4
    go_enter Tryd.func5, Tryd.ntmps5
    go_wp2_with fail
    go_ret
    exact ⟨rfl, HB⟩
  · have hd1 : decide (win < 1024) = false := decide_eq_false (by omega)
    have hd2 : decide (2147483648 < win) = false := decide_eq_false (by omega)
    have hw4 : IntKind.u64.wrap (win - 1) = win - 1 := by rw [IntKind.wrap_u64]; omega
    have hx1 : (size == 0) = false := by simpa using h4
    have hx2 : decide (size = 0) = false := decide_eq_false h4
    go_enter Tryd.func5, Tryd.ntmps5
    go_wp2_with fail
    go_ret
    exact ⟨rfl, HB⟩
end Go.Proofs.YtiobfiepapflaaaDoor
