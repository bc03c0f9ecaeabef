/-
  huff0's minTableLog and optimalTableLog. Conditions: those of each.
-/
import Derived.Test.YthkklojjpgjiiaaFmtCodeT41
namespace Go.Proofs.YthkklojjpgjiiaaFmt
open Go.RowKit

/-- the least table log for a source of n bytes with m symbols -/
def minLog (n m : Nat) : Nat := if n.log2 + 1 < (m - 1).log2 + 2 then n.log2 + 1 else (m - 1).log2 + 2
section
variable {w : World} {H n m : Nat} {f : Nat → Value}
set_option maxRecDepth 100000 in
set_option maxHeartbeats 1600000 in
theorem minLog_any (hr : RowF w H 58 540 f) (h260 : f 260 = .int .i64 (n : Nat)) (h265 : f 265 = .int .u16 (m : Nat)) (hn : 2 ≤ n) (hn2 : n ≤ 1000000) (hm : 2 ≤ m) (hm2 : m ≤ 256) :
    Calls Tryf.prog 48 #[.pointer (some ⟨H, 0, none⟩)] w fun e w' => e = .returned (.int .u8 (minLog n m : Nat)) ∧ w' = w := by
  have q260 : w.cell? ⟨H, 260, none⟩ = some (.int .i64 (n : Nat)) := hr.cellv 260 (by omega) _ h260
  have q265 : w.cell? ⟨H, 265, none⟩ = some (.int .u16 (m : Nat)) := hr.cellv 265 (by omega) _ h265
  have K1 := Lib.hid (highBit32_any n w (by omega) hn2 (n : Nat) rfl)
  have K2 := Lib.hid (highBit32_any (m - 1) w (by omega) (by omega) ((m : Int) - 1) (by omega))
  have b1 : n.log2 < 20 := (Nat.log2_lt (by omega)).2 (by omega)
  have b2 : (m - 1).log2 < 8 := (Nat.log2_lt (by omega)).2 (by omega)
  unfold minLog
  obtain ⟨x, hx⟩ : ∃ x, n.log2 = x := ⟨_, rfl⟩
  obtain ⟨y, hy⟩ : ∃ y, (m - 1).log2 = y := ⟨_, rfl⟩
  rw [hx] at K1 b1 ⊢
  rw [hy] at K2 b2 ⊢
  clear hx hy hr h260 h265
  by_cases hc : (x : Int) + 1 < (y : Int) + 2
  · have hd : decide ((x : Int) + 1 < (y : Int) + 2) = true := decide_eq_true hc
    rw [if_pos (show x + 1 < y + 2 by omega)]
    go_enter Tryf.func48, Tryf.ntmps48
    go_wp2_with fail
    refine K1.out.mono ?_
    rintro e w1 ⟨rfl, rfl⟩
    go_wp2_with fail
    refine K2.out.mono ?_
    rintro e w1 ⟨rfl, rfl⟩
    go_wp2_with fail
    go_ret
    exact ⟨congrArg (fun z => Ending.returned (Value.int .u8 z)) (by omega), rfl⟩
  · have hd : decide ((x : Int) + 1 < (y : Int) + 2) = false := decide_eq_false hc
    rw [if_neg (show ¬ x + 1 < y + 2 by omega)]
    go_enter Tryf.func48, Tryf.ntmps48
    go_wp2_with fail
    refine K1.out.mono ?_
    rintro e w1 ⟨rfl, rfl⟩
    go_wp2_with fail
    refine K2.out.mono ?_
    rintro e w1 ⟨rfl, rfl⟩
    go_wp2_with fail
    go_ret
    exact ⟨congrArg (fun z => Ending.returned (Value.int .u8 z)) (by omega), rfl⟩
/-- the table log that is taken -/
def optLog (n m : Nat) : Nat := min 11 (max 5 (max (minLog n m) (if 1 ≤ (n - 1).log2 then min 11 ((n - 1).log2 - 1) else 11)))
theorem optLog_le (n m : Nat) : 5 ≤ optLog n m ∧ optLog n m ≤ 11 := by
  unfold optLog; omega
theorem optLog_fits {k : Nat} (hm : 2 ≤ m) (hm2 : m ≤ 256) (h1 : k ≤ n) (h2 : k ≤ m) : k ≤ 2 ^ optLog n m := by
  have b2 : (m - 1).log2 < 8 := (Nat.log2_lt (by omega)).2 (by omega)
  have h3 : k ≤ 2 ^ minLog n m := by
    unfold minLog
    split
    · exact Nat.le_of_lt (Nat.lt_of_le_of_lt h1 Nat.lt_log2_self)
    · have h4 : m - 1 < 2 ^ ((m - 1).log2 + 1) := Nat.lt_log2_self
      rw [show (m - 1).log2 + 2 = (m - 1).log2 + 1 + 1 by omega, Nat.pow_succ]
      omega
  have h5 : minLog n m ≤ 9 := by
    unfold minLog
    split <;> omega
  exact Nat.le_trans h3 (Nat.pow_le_pow_right (by omega) (by unfold optLog; omega))
set_option maxRecDepth 100000 in
set_option maxHeartbeats 3200000 in
theorem optLog_any (hr : RowF w H 58 540 f) (h260 : f 260 = .int .i64 (n : Nat)) (h265 : f 265 = .int .u16 (m : Nat)) (h262 : f 262 = .int .u8 11) (hn : 2 ≤ n) (hn2 : n ≤ 1000000) (hm : 2 ≤ m) (hm2 : m ≤ 256) :
    Calls Tryf.prog 26 #[.pointer (some ⟨H, 0, none⟩)] w fun e w' => e = .returned (.tuple #[]) ∧ w' = w.setCell ⟨H, 268, none⟩ (.int .u8 (optLog n m : Nat)) := by
  have K0 := Lib.hid (minLog_any hr h260 h265 hn hn2 hm hm2)
  have q260 : w.cell? ⟨H, 260, none⟩ = some (.int .i64 (n : Nat)) := hr.cellv 260 (by omega) _ h260
  have q262 : w.cell? ⟨H, 262, none⟩ = some (.int .u8 11) := hr.cellv 262 (by omega) _ h262
  have q268 : w.cell? ⟨H, 268, none⟩ = some (f 268) := hr.cell 268 (by omega)
  have z268 := hr.frozen 268
  have K1 := Lib.hid (highBit32_any (n - 1) w (by omega) (by omega) ((n : Int) - 1) (by omega))
  have b1 : (n - 1).log2 < 20 := (Nat.log2_lt (by omega)).2 (by omega)
  have b2 : (m - 1).log2 < 8 := (Nat.log2_lt (by omega)).2 (by omega)
  have b3 : minLog n m ≤ 9 := by
    unfold minLog
    split <;> omega
  have hv : ∀ v, v = min 11 (max 5 (max (minLog n m) (if 1 ≤ (n - 1).log2 then min 11 ((n - 1).log2 - 1) else 11))) → optLog n m = v := fun v h => h.symm
  obtain ⟨z, hz⟩ : ∃ z, (n - 1).log2 = z := ⟨_, rfl⟩
  obtain ⟨b, hb⟩ : ∃ b, minLog n m = b := ⟨_, rfl⟩
  rw [hz] at K1 b1 hv
  rw [hb] at K0 b3 hv
  have HV := Lib.hid hv
  clear hz hb hr h260 h265 h262 hv
  have hd0 : decide ((11 : Int) < (b : Int)) = false := decide_eq_false (by omega)
  by_cases hz0 : z = 0
  · subst hz0
    go_enter Tryf.func26, Tryf.ntmps26
    go_wp2_with fail
    refine K0.out.mono ?_
    rintro e w1 ⟨rfl, rfl⟩
    go_wp2_with fail
    refine K1.out.mono ?_
    rintro e w2 ⟨rfl, rfl⟩
    go_wp2_with fail
    refine bodyPost_end (results_none rfl _ _ _) rfl ?_
    exact ⟨rfl, by rw [HV.out (11) (by split <;> omega)]; try go_num⟩
  by_cases hc : (z : Int) - 1 < 11
  · have hd : decide ((z : Int) - 1 < 11) = true := decide_eq_true hc
    by_cases hc2 : (z : Int) - 1 < (b : Int)
    · have hd2 : decide ((z : Int) - 1 < (b : Int)) = true := decide_eq_true hc2
      by_cases hc3 : (b : Int) < 5
      · have hd3 : decide ((b : Int) < 5) = true := decide_eq_true hc3
        go_enter Tryf.func26, Tryf.ntmps26
        go_wp2_with fail
        refine K0.out.mono ?_
        rintro e w1 ⟨rfl, rfl⟩
        go_wp2_with fail
        refine K1.out.mono ?_
        rintro e w2 ⟨rfl, rfl⟩
        go_wp2_with fail
        refine bodyPost_end (results_none rfl _ _ _) rfl ?_
        exact ⟨rfl, by rw [HV.out (5) (by split <;> omega)]; try go_num⟩
      · have hd3 : decide ((b : Int) < 5) = false := decide_eq_false hc3
        go_enter Tryf.func26, Tryf.ntmps26
        go_wp2_with fail
        refine K0.out.mono ?_
        rintro e w1 ⟨rfl, rfl⟩
        go_wp2_with fail
        refine K1.out.mono ?_
        rintro e w2 ⟨rfl, rfl⟩
        go_wp2_with fail
        refine bodyPost_end (results_none rfl _ _ _) rfl ?_
        exact ⟨rfl, by rw [HV.out (b) (by split <;> omega)]; try go_num⟩
    · have hd2 : decide ((z : Int) - 1 < (b : Int)) = false := decide_eq_false hc2
      by_cases hc3 : (z : Int) - 1 < 5
      · have hd3 : decide ((z : Int) - 1 < 5) = true := decide_eq_true hc3
        go_enter Tryf.func26, Tryf.ntmps26
        go_wp2_with fail
        refine K0.out.mono ?_
        rintro e w1 ⟨rfl, rfl⟩
        go_wp2_with fail
        refine K1.out.mono ?_
        rintro e w2 ⟨rfl, rfl⟩
        go_wp2_with fail
        refine bodyPost_end (results_none rfl _ _ _) rfl ?_
        exact ⟨rfl, by rw [HV.out (5) (by split <;> omega)]; try go_num⟩
      · have hd3 : decide ((z : Int) - 1 < 5) = false := decide_eq_false hc3
        have hd4 : decide ((11 : Int) < (z : Int) - 1) = false := decide_eq_false (by omega)
        go_enter Tryf.func26, Tryf.ntmps26
        go_wp2_with fail
        refine K0.out.mono ?_
        rintro e w1 ⟨rfl, rfl⟩
        go_wp2_with fail
        refine K1.out.mono ?_
        rintro e w2 ⟨rfl, rfl⟩
        go_wp2_with fail
        refine bodyPost_end (results_none rfl _ _ _) rfl ?_
        exact ⟨rfl, by rw [HV.out (z - 1) (by split <;> omega), show ((z - 1 : Nat) : Int) = (z : Int) - 1 by omega]⟩
  · have hd : decide ((z : Int) - 1 < 11) = false := decide_eq_false hc
    go_enter Tryf.func26, Tryf.ntmps26
    go_wp2_with fail
    refine K0.out.mono ?_
    rintro e w1 ⟨rfl, rfl⟩
    go_wp2_with fail
    refine K1.out.mono ?_
    rintro e w2 ⟨rfl, rfl⟩
    go_wp2_with fail
    refine bodyPost_end (results_none rfl _ _ _) rfl ?_
    exact ⟨rfl, by rw [HV.out (11) (by split <;> omega)]; try go_num⟩
end
end Go.Proofs.YthkklojjpgjiiaaFmt
