/-
  huff0's CanUseTable and EstimateSize: both look at whether a symbol has bits. Conditions: those of each.
-/
import Derived.Test.YthkklojjpgjiiaaFmtCodeT40
namespace Go.Proofs.YthkklojjpgjiiaaFmt
open Go.RowKit

/-- the table that was built: m entries, nb bits each -/
structure PTab (w : World) (H G m cG : Nat) (fh tv : Nat → Value) (TT : TypeId) (NG : Nat) (nb : Nat → Nat) : Prop where
  row : RowF w H 58 540 fh
  prev : fh 270 = .slice (some ⟨G, 0, none⟩) m cG
  tab : RowF w G TT NG tv
  fit : 2 * m ≤ NG
  bit : ∀ i, i < m → tv (i * 2 + 1) = .int .u8 (nb i : Nat) ∧ nb i ≤ 11
/-- every symbol that is used has bits -/
def CovT (hv nb : Nat → Nat) (m k : Nat) : Prop := ∀ i, i < k → 0 < hv i → i < m ∧ 0 < nb i
section
variable {w : World} {H G g m cG NG : Nat} {fh tv : Nat → Value} {TT TH : TypeId} {nb hv : Nat → Nat}
set_option maxRecDepth 100000 in
set_option maxHeartbeats 3200000 in
theorem canUse_any (hT : PTab w H G m cG fh tv TT NG nb) (hm : 1 ≤ m) (hm2 : m ≤ 256) (hH : RowF w g TH 256 fun k => .int .u32 (hv k : Nat)) (hhv : ∀ k, hv k < 65536) :
    Calls Tryf.prog 12 #[.pointer (some ⟨H, 0, none⟩), .pointer (some ⟨g, 0, none⟩)] w fun e w' => ((CovT hv nb m 256 ∧ e = .returned (.bool true)) ∨ (¬ CovT hv nb m 256 ∧ e = .returned (.bool false))) ∧ DrewN w w' := by
  have q270 : w.cell? ⟨H, 270, none⟩ = some (.slice (some ⟨G, 0, none⟩) m cG) := hT.row.cellv 270 (by omega) _ hT.prev
  have HT := Lib.hid hT
  have HH := Lib.hid hH
  have HHV := Lib.hid hhv
  have hmz : ((m : Int) == 0) = false := by rw [beq_eq_false_iff_ne]; omega
  have hmz2 : decide ((m : Int) = 0) = false := decide_eq_false (by omega)
  clear hT hH hhv
  go_enter Tryf.func12, Tryf.ntmps12
  go_wp2_with fail
  go_loopw [27] (fun iv wr => ∃ (i : Nat), i ≤ 256 ∧ iv = .int .i64 (i : Nat) ∧ CovT hv nb m i ∧ DrewN w wr) (fun iv _ => 256 - (intOf iv).toNat)
  case atStart => exact ⟨0, Nat.zero_le _, rfl, fun j hj => by omega, DrewN.refl _⟩
  case round =>
    obtain ⟨i, hi, rfl, hcov, hdr⟩ := hrel
    have HCOV := Lib.hid hcov
    clear hcov
    by_cases hin : i < 256
    · have hd0 : decide ((i : Int) < 256) = true := decide_eq_true (by omega)
      have k0 : wr.cell? ⟨g, i, none⟩ = some (.int .u32 (hv i : Nat)) := (hdr.cell _).trans (HH.out.cell i hin)
      have hx := HHV.out i
      obtain ⟨x, hxe⟩ : ∃ x, hv i = x := ⟨_, rfl⟩
      simp only [hxe] at k0 hx
      have HX := Lib.hid hxe
      clear hxe
      have hgo : (0 < hv i → i < m ∧ 0 < nb i) → CovT hv nb m (i + 1) := fun h j hj => by
        rcases Nat.lt_or_eq_of_le (Nat.le_of_lt_succ hj) with h2 | h2
        · exact HCOV.out j h2
        · rw [h2]; exact h
      have HGO := Lib.hid hgo
      clear hgo
      by_cases hxz : x = 0
      · subst hxz
        have hyes := HGO.out fun h => by rw [HX.out] at h; omega
        have HY := Lib.hid hyes
        clear hyes
        go_wp2_with fail
        go_quiet (fail)
        go_wp2_with fail
        refine ⟨⟨i + 1, by omega, by go_num, HY.out, hdr.more _⟩, by simp [intOf]; omega⟩
      · have hxn : ((x : Int) == 0) = false := by rw [beq_eq_false_iff_ne]; omega
        have hxn2 : decide ((x : Int) = 0) = false := decide_eq_false (by omega)
        by_cases him : (m : Int) ≤ (i : Int)
        · have hd3 : decide ((m : Int) ≤ (i : Int)) = true := decide_eq_true him
          have hno : ¬ CovT hv nb m 256 := fun h => by
            have := (h i hin (by rw [HX.out]; omega)).1
            omega
          have HNO := Lib.hid hno
          clear hno hxz
          go_wp2_with fail
          go_quiet (fail)
          go_wp2_with fail
          go_ret
          exact ⟨.inr ⟨HNO.out, rfl⟩, hdr.more _⟩
        · have hd3 : decide ((m : Int) ≤ (i : Int)) = false := decide_eq_false him
          have himn : (i : Int) < (m : Int) := by omega
          have hfit := HT.out.fit
          have hbi := HT.out.bit i (by omega)
          have k1 : wr.cell? ⟨G, i * 2 + 1, none⟩ = some (.int .u8 (nb i : Nat)) := (hdr.cell _).trans (HT.out.tab.cellv _ (by omega) _ hbi.1)
          have hb11 := hbi.2
          clear hbi hfit
          obtain ⟨y, hye⟩ : ∃ y, nb i = y := ⟨_, rfl⟩
          rw [hye] at k1 hb11
          have HY0 := Lib.hid hye
          clear hye
          by_cases hyz : y = 0
          · subst hyz
            have hno : ¬ CovT hv nb m 256 := fun h => by
              have := (h i hin (by rw [HX.out]; omega)).2
              rw [HY0.out] at this
              omega
            have HNO := Lib.hid hno
            clear hno hxz
            go_wp2_with fail
            go_quiet (fail)
            go_wp2_with fail
            go_ret
            exact ⟨.inr ⟨HNO.out, rfl⟩, hdr.more _⟩
          · have hyn : ((y : Int) == 0) = false := by rw [beq_eq_false_iff_ne]; omega
            have hyn2 : decide ((y : Int) = 0) = false := decide_eq_false (by omega)
            have hyes := HGO.out fun _ => ⟨by omega, by rw [HY0.out]; omega⟩
            have HY := Lib.hid hyes
            clear hyes hxz hyz
            go_wp2_with fail
            go_quiet (fail)
            go_wp2_with fail
            refine ⟨⟨i + 1, by omega, by go_num, HY.out, hdr.more _⟩, by simp [intOf]; omega⟩
    · obtain rfl : i = 256 := by omega
      go_wp2_with fail
      go_ret
      exact ⟨.inl ⟨HCOV.out, rfl⟩, hdr⟩
set_option maxRecDepth 100000 in
set_option maxHeartbeats 3200000 in
theorem estSize_any (hT : PTab w H G m cG fh tv TT NG nb) (hm : 1 ≤ m) (hm2 : m ≤ 256) (hH : RowF w g TH 256 fun k => .int .u32 (hv k : Nat)) (hhv : ∀ k, hv k < 65536) :
    Calls Tryf.prog 13 #[.pointer (some ⟨H, 0, none⟩), .pointer (some ⟨g, 0, none⟩)] w fun e w' => ((CovT hv nb m 256 ∧ ∃ z : Nat, e = .returned (.int .i64 (z : Nat))) ∨ (¬ CovT hv nb m 256 ∧ e = .returned (.int .i64 (-1)))) ∧ DrewN w w' := by
  have q270 : w.cell? ⟨H, 270, none⟩ = some (.slice (some ⟨G, 0, none⟩) m cG) := hT.row.cellv 270 (by omega) _ hT.prev
  have HT := Lib.hid hT
  have HH := Lib.hid hH
  have HHV := Lib.hid hhv
  have hmz : ((m : Int) == 0) = false := by rw [beq_eq_false_iff_ne]; omega
  have hmz2 : decide ((m : Int) = 0) = false := decide_eq_false (by omega)
  clear hT hH hhv
  go_enter Tryf.func13, Tryf.ntmps13
  go_wp2_with fail
  go_loopw [6, 28] (fun uv iv wr => ∃ (i u : Nat), i ≤ 256 ∧ iv = .int .i64 (i : Nat) ∧ uv = .int .u32 (u : Nat) ∧ u ≤ 7 + i * 720885 ∧ CovT hv nb m i ∧ DrewN w wr) (fun _ iv _ => 256 - (intOf iv).toNat)
  case atStart => exact ⟨0, 7, Nat.zero_le _, rfl, rfl, Nat.le_add_right 7 _, fun j hj => by omega, DrewN.refl _⟩
  case round =>
    obtain ⟨i, u, hi, rfl, rfl, hu, hcov, hdr⟩ := hrel
    have HCOV := Lib.hid hcov
    clear hcov
    by_cases hin : i < 256
    · have hd0 : decide ((i : Int) < 256) = true := decide_eq_true (by omega)
      have k0 : wr.cell? ⟨g, i, none⟩ = some (.int .u32 (hv i : Nat)) := (hdr.cell _).trans (HH.out.cell i hin)
      have hx := HHV.out i
      obtain ⟨x, hxe⟩ : ∃ x, hv i = x := ⟨_, rfl⟩
      simp only [hxe] at k0 hx
      have HX := Lib.hid hxe
      clear hxe
      have hgo : (0 < hv i → i < m ∧ 0 < nb i) → CovT hv nb m (i + 1) := fun h j hj => by
        rcases Nat.lt_or_eq_of_le (Nat.le_of_lt_succ hj) with h2 | h2
        · exact HCOV.out j h2
        · rw [h2]; exact h
      have HGO := Lib.hid hgo
      clear hgo
      by_cases hxz : x = 0
      · subst hxz
        have hyes := HGO.out fun h => by rw [HX.out] at h; omega
        have HY := Lib.hid hyes
        clear hyes
        go_wp2_with fail
        go_quiet (fail)
        go_wp2_with fail
        refine ⟨⟨i + 1, u, by omega, by go_num, rfl, Nat.le_trans hu (Nat.add_le_add_left (Nat.mul_le_mul_right _ (Nat.le_succ i)) 7), HY.out, hdr.more _⟩, by simp [intOf]; omega⟩
      · have hxn : ((x : Int) == 0) = false := by rw [beq_eq_false_iff_ne]; omega
        have hxn2 : decide ((x : Int) = 0) = false := decide_eq_false (by omega)
        by_cases him : (m : Int) ≤ (i : Int)
        · have hd3 : decide ((m : Int) ≤ (i : Int)) = true := decide_eq_true him
          have hno : ¬ CovT hv nb m 256 := fun h => by
            have := (h i hin (by rw [HX.out]; omega)).1
            omega
          have HNO := Lib.hid hno
          clear hno hxz
          go_wp2_with fail
          go_quiet (fail)
          go_wp2_with fail
          go_ret
          exact ⟨.inr ⟨HNO.out, rfl⟩, hdr.more _⟩
        · have hd3 : decide ((m : Int) ≤ (i : Int)) = false := decide_eq_false him
          have himn : (i : Int) < (m : Int) := by omega
          have hfit := HT.out.fit
          have hbi := HT.out.bit i (by omega)
          have k1 : wr.cell? ⟨G, i * 2 + 1, none⟩ = some (.int .u8 (nb i : Nat)) := (hdr.cell _).trans (HT.out.tab.cellv _ (by omega) _ hbi.1)
          have hb11 := hbi.2
          clear hbi hfit
          obtain ⟨y, hye⟩ : ∃ y, nb i = y := ⟨_, rfl⟩
          rw [hye] at k1 hb11
          have HY0 := Lib.hid hye
          clear hye
          by_cases hyz : y = 0
          · subst hyz
            have hno : ¬ CovT hv nb m 256 := fun h => by
              have := (h i hin (by rw [HX.out]; omega)).2
              rw [HY0.out] at this
              omega
            have HNO := Lib.hid hno
            clear hno hxz
            go_wp2_with fail
            go_quiet (fail)
            go_wp2_with fail
            go_ret
            exact ⟨.inr ⟨HNO.out, rfl⟩, hdr.more _⟩
          · have hyn : ((y : Int) == 0) = false := by rw [beq_eq_false_iff_ne]; omega
            have hyn2 : decide ((y : Int) = 0) = false := decide_eq_false (by omega)
            obtain ⟨p, hp⟩ : ∃ p, y * x = p := ⟨_, rfl⟩
            have hp2 : p ≤ 720885 := by
              rw [← hp]
              exact Nat.le_trans (Nat.mul_le_mul hb11 (show x ≤ 65535 by omega)) (by omega)
            have hpi : (y : Int) * (x : Int) = (p : Nat) := by rw [← hp]; exact (Int.natCast_mul _ _).symm
            clear hp
            have hyes := HGO.out fun _ => ⟨by omega, by rw [HY0.out]; omega⟩
            have HY := Lib.hid hyes
            clear hyes hxz hyz
            go_wp2_with fail
            go_quiet (fail)
            go_wp2_with fail
            refine ⟨⟨i + 1, u + p, by omega, by go_num, by go_num, by omega, HY.out, hdr.more _⟩, by simp [intOf]; omega⟩
    · obtain rfl : i = 256 := by omega
      go_wp2_with fail
      go_ret
      exact ⟨.inl ⟨HCOV.out, u / 8, by go_num⟩, hdr⟩
end
end Go.Proofs.YthkklojjpgjiiaaFmt
