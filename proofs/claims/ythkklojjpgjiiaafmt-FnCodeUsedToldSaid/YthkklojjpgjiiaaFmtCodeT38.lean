/-
  Lists of uint16: how they lie; spec.CountUsed. Conditions: those of each.
-/
import Derived.Test.YthkklojjpgjiiaaFmtCodeT03
import Derived.Test.YthkklojjpgjiiaaFmtCodeT16
import Derived.Test.YthkklojjpgjiiaaFmtCodeT10
namespace Go.Proofs.YthkklojjpgjiiaaFmt
open Go.RowKit

/-- The slice of address A, length n, capacity c reads as the numbers l (uint16), and lies below block B. -/
def Sw (w : World) (B : Nat) (A : Option Addr) (n c : Nat) (l : List Nat) : Prop :=
  l.length = n ∧ n ≤ c ∧ c ≤ maxLen ∧ (∀ j, l.getD j 0 < 65536) ∧ (n = 0 ∨ ∃ g o, A = some ⟨g, o, none⟩ ∧ g < B ∧ ∀ j, j < n → w.cell? ⟨g, o + j, none⟩ = some (.int .u16 (l.getD j 0 : Nat)))
section
variable {w w' : World} {B B' : Nat} {A : Option Addr} {n c : Nat} {l : List Nat}
theorem Sw.len (h : Sw w B A n c l) : l.length = n := h.1
theorem Sw.cap (h : Sw w B A n c l) : n ≤ c := h.2.1
theorem Sw.at_ (h : Sw w B A n c l) (hn : 0 < n) : ∃ g o, A = some ⟨g, o, none⟩ ∧ g < B ∧ ∀ j, j < n → w.cell? ⟨g, o + j, none⟩ = some (.int .u16 (l.getD j 0 : Nat)) := by
  rcases h.2.2.2.2 with e | e
  · omega
  · exact e
theorem Sw.keep (h : Sw w B A n c l) (hk : ∀ b o, b < B → w'.cell? ⟨b, o, none⟩ = w.cell? ⟨b, o, none⟩) : Sw w' B A n c l := by
  refine ⟨h.1, h.2.1, h.2.2.1, h.2.2.2.1, ?_⟩
  rcases h.2.2.2.2 with e | ⟨g, o, e, hb, hc⟩
  · exact .inl e
  · exact .inr ⟨g, o, e, hb, fun j hj => (hk g (o + j) hb).trans (hc j hj)⟩
theorem Sw.below (h : Sw w B A n c l) (hb : Below B w w') : Sw w' B A n c l := h.keep fun b o hp => hb.cell (p := ⟨b, o, none⟩) hp
end
/-- the number of symbol i in a list -/
def cntL (l : List Nat) (i : Nat) : Nat := if i < 256 then l.getD i 0 else 0
/-- how many symbols below i are used -/
def usedL (l : List Nat) : Nat → Nat := sm fun i => if 0 < cntL l i then 1 else 0
theorem usedL_le (l : List Nat) (i : Nat) : usedL l i ≤ i := by
  have := sm_le (f := fun i => if 0 < cntL l i then 1 else 0) (g := fun _ => 1) (n := i) fun j _ => by show (if 0 < cntL l j then 1 else 0) ≤ 1; split <;> omega
  rw [sm_const] at this
  unfold usedL
  omega
set_option maxRecDepth 100000 in
set_option maxHeartbeats 1600000 in
theorem countUsed_any {w : World} {B : Nat} {A : Option Addr} {n c : Nat} {l : List Nat} (hs : Sw w B A n c l) (hn : n ≤ 2147483647) :
    Calls Tryf.prog 5 #[.slice A n c] w fun e w' => (∃ v : Int, e = .returned (.tuple #[.int .i64 (usedL l n : Nat), .int .i64 v])) ∧ w' = w := by
  have HS := Lib.hid hs
  have hl16 := hs.2.2.2.1
  have HL := Lib.hid hl16
  clear hs hl16
  go_enter Tryf.func5, Tryf.ntmps5
  go_wp2_with fail
  go_loopw [4, 5, 10] (fun uv lv iv wr => ∃ (i : Nat) (v : Int), i ≤ n ∧ iv = .int .i64 (i : Nat) ∧ uv = .int .i64 (usedL l i : Nat) ∧ lv = .int .i64 v ∧ wr = w) (fun _ _ iv _ => n - (intOf iv).toNat)
  case atStart => exact ⟨0, -1, Nat.zero_le _, rfl, rfl, rfl, rfl⟩
  case round =>
    obtain ⟨i, v, hi, rfl, rfl, rfl, rfl⟩ := hrel
    have hu := usedL_le l i
    have hstep : usedL l (i + 1) = usedL l i + (if 0 < cntL l i then 1 else 0) := rfl
    obtain ⟨u, hue⟩ : ∃ u, usedL l i = u := ⟨_, rfl⟩
    rw [hue] at hu hstep ⊢
    have HUE := Lib.hid hue
    clear hue
    have HST := Lib.hid hstep
    clear hstep
    by_cases hin : i < n
    · obtain ⟨g, o, hA, hgB, hc⟩ := HS.out.at_ (by omega)
      have hci := hc i hin
      have hx := HL.out i
      obtain ⟨x, hxe⟩ : ∃ x, l.getD i 0 = x := ⟨_, rfl⟩
      rw [hxe] at hci hx
      have HX := Lib.hid hxe
      subst hA
      clear hc hxe
      by_cases h256 : (i : Int) < 256
      · have hd : decide ((i : Int) < 256) = true := decide_eq_true h256
        by_cases hx0 : (0 : Int) < (x : Int)
        · have hd2 : decide ((0 : Int) < (x : Int)) = true := decide_eq_true hx0
          have hcn : 0 < cntL l i := by unfold cntL; rw [if_pos (by omega), HX.out]; omega
          have HCN := Lib.hid hcn
          clear hcn
          go_wp2_with fail
          refine ⟨⟨i + 1, i, by omega, by go_num, by rw [HST.out, if_pos HCN.out]; go_num, rfl, trivial⟩, by simp [intOf]; omega⟩
        · have hd2 : decide ((0 : Int) < (x : Int)) = false := decide_eq_false hx0
          have hcn : ¬ 0 < cntL l i := by unfold cntL; rw [if_pos (by omega), HX.out]; omega
          have HCN := Lib.hid hcn
          clear hcn
          go_wp2_with fail
          refine ⟨⟨i + 1, v, by omega, by go_num, by rw [HST.out, if_neg HCN.out]; rfl, rfl, trivial⟩, by simp [intOf]; omega⟩
      · have hd : decide ((i : Int) < 256) = false := decide_eq_false h256
        have hcn : ¬ 0 < cntL l i := by unfold cntL; rw [if_neg (by omega)]; omega
        have HCN := Lib.hid hcn
        clear hcn
        go_wp2_with fail
        refine ⟨⟨i + 1, v, by omega, by go_num, by rw [HST.out, if_neg HCN.out]; rfl, rfl, trivial⟩, by simp [intOf]; omega⟩
    · obtain rfl : n = i := by omega
      go_wp2_with fail
      go_ret2
      exact ⟨⟨v, by rw [HUE.out]; rfl⟩, rfl⟩
/-- every symbol that the second list uses is used in the first -/
def CovL (l o : List Nat) (m : Nat) : Prop := ∀ i, i < m → 0 < cntL o i → 0 < cntL l i
set_option maxRecDepth 100000 in
set_option maxHeartbeats 3200000 in
theorem covers_any {w : World} {B : Nat} {A A2 : Option Addr} {n c n2 c2 : Nat} {l l2 : List Nat} (hs : Sw w B A n c l) (hs2 : Sw w B A2 n2 c2 l2) (hn : n ≤ 2147483647) (hn2 : n2 ≤ 2147483647) :
    Calls Tryf.prog 7 #[.slice A n c, .slice A2 n2 c2] w fun e w' => ((CovL l l2 n2 ∧ e = .returned (.bool true)) ∨ (¬ CovL l l2 n2 ∧ e = .returned (.bool false))) ∧ w' = w := by
  have HS := Lib.hid hs
  have HS2 := Lib.hid hs2
  have hlen := hs.len
  have HL := Lib.hid hs.2.2.2.1
  have HL2 := Lib.hid hs2.2.2.2.1
  have HLEN := Lib.hid hlen
  clear hs hs2 hlen
  go_enter Tryf.func7, Tryf.ntmps7
  go_wp2_with fail
  go_loopw [9] (fun iv wr => ∃ (i : Nat), i ≤ n2 ∧ iv = .int .i64 (i : Nat) ∧ CovL l l2 i ∧ wr = w) (fun iv _ => n2 - (intOf iv).toNat)
  case atStart => exact ⟨0, Nat.zero_le _, rfl, fun j hj => by omega, rfl⟩
  case round =>
    obtain ⟨i, hi, rfl, hcov, rfl⟩ := hrel
    have HCOV := Lib.hid hcov
    clear hcov
    by_cases hin : i < n2
    · obtain ⟨g2, o2, hA2, hgB2, hc2⟩ := HS2.out.at_ (by omega)
      have hci2 := hc2 i hin
      have hx2 := HL2.out i
      obtain ⟨x2, hxe2⟩ : ∃ x, l2.getD i 0 = x := ⟨_, rfl⟩
      rw [hxe2] at hci2 hx2
      have HX2 := Lib.hid hxe2
      subst hA2
      clear hc2 hxe2
      have hgo : (0 < cntL l2 i → 0 < cntL l i) → CovL l l2 (i + 1) := fun h j hj => by
        rcases Nat.lt_or_eq_of_le (Nat.le_of_lt_succ hj) with h2 | h2
        · exact HCOV.out j h2
        · rw [h2]; exact h
      have HGO := Lib.hid hgo
      clear hgo
      by_cases h256 : (i : Int) < 256
      · have hd : decide ((i : Int) < 256) = true := decide_eq_true h256
        by_cases hx0 : (0 : Int) < (x2 : Int)
        · have hd2 : decide ((0 : Int) < (x2 : Int)) = true := decide_eq_true hx0
          have hcn2 : 0 < cntL l2 i := by unfold cntL; rw [if_pos (by omega), HX2.out]; omega
          have HCN2 := Lib.hid hcn2
          clear hcn2
          by_cases hil : (n : Int) ≤ (i : Int)
          · have hd3 : decide ((n : Int) ≤ (i : Int)) = true := decide_eq_true hil
            have hno : ¬ CovL l l2 n2 := fun h => by
              have h2 := h i hin HCN2.out
              unfold cntL at h2
              rw [if_pos (by omega), List.getD_eq_getElem?_getD, List.getElem?_eq_none (by rw [HLEN.out]; omega)] at h2
              exact absurd h2 (by decide)
            have HNO := Lib.hid hno
            clear hno
            go_wp2_with fail
            go_ret
            exact ⟨.inr ⟨HNO.out, rfl⟩, rfl⟩
          · have hd3 : decide ((n : Int) ≤ (i : Int)) = false := decide_eq_false hil
            obtain ⟨g, o, hA, hgB, hc⟩ := HS.out.at_ (by omega)
            have hci := hc i (by omega)
            have hx := HL.out i
            obtain ⟨x, hxe⟩ : ∃ x, l.getD i 0 = x := ⟨_, rfl⟩
            rw [hxe] at hci hx
            have HX := Lib.hid hxe
            subst hA
            clear hc hxe
            have hiln : (i : Int) < (n : Int) := by omega
            by_cases hxz : x = 0
            · subst hxz
              have hno : ¬ CovL l l2 n2 := fun h => by
                have h2 := h i hin HCN2.out
                unfold cntL at h2
                rw [if_pos (by omega), HX.out] at h2
                exact absurd h2 (by decide)
              have HNO := Lib.hid hno
              clear hno
              go_wp2_with fail
              go_ret
              exact ⟨.inr ⟨HNO.out, rfl⟩, rfl⟩
            · have hne : ((x : Int) == 0) = false := by rw [beq_eq_false_iff_ne]; omega
              have hne2 : decide ((x : Int) = 0) = false := decide_eq_false (by omega)
              have hyes : CovL l l2 (i + 1) := HGO.out fun _ => by
                unfold cntL; rw [if_pos (by omega), HX.out]; omega
              have HY := Lib.hid hyes
              clear hyes hxz
              go_wp2_with fail
              refine ⟨⟨i + 1, by omega, by go_num, HY.out, trivial⟩, by simp [intOf]; omega⟩
        · have hd2 : decide ((0 : Int) < (x2 : Int)) = false := decide_eq_false hx0
          have hyes : CovL l l2 (i + 1) := HGO.out fun h => by
            unfold cntL at h; rw [if_pos (by omega), HX2.out] at h; omega
          have HY := Lib.hid hyes
          clear hyes
          go_wp2_with fail
          refine ⟨⟨i + 1, by omega, by go_num, HY.out, trivial⟩, by simp [intOf]; omega⟩
      · have hd : decide ((i : Int) < 256) = false := decide_eq_false h256
        have hyes : CovL l l2 (i + 1) := HGO.out fun h => by
          unfold cntL at h; rw [if_neg (by omega)] at h; omega
        have HY := Lib.hid hyes
        clear hyes
        go_wp2_with fail
        refine ⟨⟨i + 1, by omega, by go_num, HY.out, trivial⟩, by simp [intOf]; omega⟩
    · obtain rfl : n2 = i := by omega
      go_wp2_with fail
      go_ret
      exact ⟨.inl ⟨HCOV.out, rfl⟩, rfl⟩
end Go.Proofs.YthkklojjpgjiiaaFmt
