/-
  spec.zTable.loops: whether a state leads to itself without a bit. Conditions: those of the theorem.
-/
import Derived.Test.YthkklojjpgjiiaaFmtCodeT14
namespace Go.Proofs.YthkklojjpgjiiaaFmt
open Go.RowKit

def LoopsPost (w : World) (b c : Nat → Nat) (S : Nat) (e : Ending) (w' : World) : Prop :=
  ((∃ i, i < S ∧ b i = 0 ∧ c i = i) ∧ e = .returned (.bool true) ∨ (∀ i, i < S → ¬ (b i = 0 ∧ c i = i)) ∧ e = .returned (.bool false)) ∧ Below w.heap.size w w'
theorem stV_at (a b c : Nat → Nat) (i : Nat) : stV a b c (i * 3) = .int .i64 (a i : Nat) ∧ stV a b c (i * 3 + 1) = .int .i64 (b i : Nat) ∧ stV a b c (i * 3 + 2) = .int .i64 (c i : Nat) := by
  unfold stV
  refine ⟨?_, ?_, ?_⟩
  · rw [if_pos (by omega), show i * 3 / 3 = i by omega]
  · rw [if_neg (by omega), if_pos (by omega), show (i * 3 + 1) / 3 = i by omega]
  · rw [if_neg (by omega), if_neg (by omega), show (i * 3 + 2) / 3 = i by omega]

set_option maxRecDepth 100000 in
set_option maxHeartbeats 1600000 in
theorem loops_any {w : World} {T S : Nat} {a b c : Nat → Nat} (lg : Int) (hT : RowF w T 135 (3 * S) (stV a b c)) (hS : S ≤ 64) :
    Calls Tryf.prog 39 #[.agg #[.int .i64 lg, .slice (some ⟨T, 0, none⟩) S S]] w (LoopsPost w b c S) := by
  have hlt := hT.lt
  have HT := Lib.hid hT
  have hb1 : Below w.heap.size w (w.alloc (.cells #[.int .i64 lg, .slice (some ⟨T, 0, none⟩) S S] 127)) := below_new _ _
  have HB1 := Lib.hid hb1
  clear hT hb1
  go_enter Tryf.func39, Tryf.ntmps39
  go_wp2_with fail
  go_loopw [8] (fun iv wr => ∃ i : Nat, i ≤ S ∧ iv = .int .i64 (i : Nat) ∧ (∀ j, j < i → ¬ (b j = 0 ∧ c j = j)) ∧ Below w.heap.size w wr) (fun iv _ => S - (intOf iv).toNat)
  case atStart => exact ⟨0, Nat.zero_le _, rfl, fun j hj => by omega, HB1.out⟩
  case round =>
    obtain ⟨i, hi, rfl, hno, hB⟩ := hrel
    have HNO := Lib.hid hno
    have HB := Lib.hid hB
    have HTr := Lib.hid (HT.out.below hB hlt)
    clear hno hB
    by_cases hiS : i < S
    · have hv := stV_at a b c i
      have c0 : wr.cell? ⟨T, i * 3, none⟩ = some (.int .i64 (a i : Nat)) := HTr.out.cellv _ (by omega) _ hv.1
      have c1 : wr.cell? ⟨T, i * 3 + 1, none⟩ = some (.int .i64 (b i : Nat)) := HTr.out.cellv _ (by omega) _ hv.2.1
      have c2 : wr.cell? ⟨T, i * 3 + 2, none⟩ = some (.int .i64 (c i : Nat)) := HTr.out.cellv _ (by omega) _ hv.2.2
      obtain ⟨x, hx⟩ : ∃ x, b i = x := ⟨_, rfl⟩
      obtain ⟨y, hy⟩ : ∃ y, c i = y := ⟨_, rfl⟩
      rw [hx] at c1
      rw [hy] at c2
      have HX := Lib.hid hx
      have HY := Lib.hid hy
      clear hv hx hy
      by_cases h0 : x = 0
      · subst h0
        by_cases h1 : y = i
        · subst h1
          go_wp2_with fail
          go_ret
          exact ⟨.inl ⟨⟨y, hiS, HX.out, HY.out⟩, rfl⟩, HB.out.trans ((below_new wr _).mono HB.out.size)⟩
        · have hne : ((y : Int) == (i : Int)) = false := beq_eq_false_iff_ne.2 (by omega)
          have hnat : (y == i) = false := by simpa using h1
          have H1 := Lib.hid h1
          clear h1
          go_wp2_with fail
          refine ⟨⟨i + 1, by omega, by go_num, fun j hj => ?_, HB.out.trans ((below_new wr _).mono HB.out.size)⟩, by simp [intOf]; omega⟩
          rcases Nat.lt_or_eq_of_le (Nat.le_of_lt_succ hj) with h | h
          · exact HNO.out j h
          · subst h; intro h2; exact H1.out (by rw [← HY.out]; exact h2.2)
      · have hne : ((x : Int) == 0) = false := by simpa using h0
        have H0 := Lib.hid h0
        clear h0
        go_wp2_with fail
        refine ⟨⟨i + 1, by omega, by go_num, fun j hj => ?_, HB.out.trans ((below_new wr _).mono HB.out.size)⟩, by simp [intOf]; omega⟩
        rcases Nat.lt_or_eq_of_le (Nat.le_of_lt_succ hj) with h | h
        · exact HNO.out j h
        · subst h; intro h2; exact H0.out (by rw [← HX.out]; exact h2.1)
    · obtain rfl : S = i := by omega
      go_wp2_with fail
      go_ret
      exact ⟨.inr ⟨HNO.out, rfl⟩, HB.out⟩
end Go.Proofs.YthkklojjpgjiiaaFmt
