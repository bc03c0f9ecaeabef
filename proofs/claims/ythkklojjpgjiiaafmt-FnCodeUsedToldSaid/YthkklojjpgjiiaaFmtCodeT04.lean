/-
  huff0's setMaxHeight, plain: what is owed where lengths are cut. Conditions: those of each.
  huff0's setMaxHeight, plain: paying back and overshooting, step by step. Conditions: those of each.
  The tree of a code, plain: two queues, picks that do not fall, parents that rise. Conditions: those of each.
-/
import Derived.Test.YthkklojjpgjiiaaFmtCodeT03
namespace Go.Proofs.YthkklojjpgjiiaaFmt

/-- lengths cut at M -/
def cutL (M : Nat) (l : Nat → Nat) (i : Nat) : Nat := min (l i) M
/-- what position i owes -/
def cst (M L : Nat) (l : Nat → Nat) (i : Nat) : Nat := if M < l i then 2 ^ (L - M) - 2 ^ (L - l i) else 0
/-- lengths that rise, at least 1, whose sum of Kraft is whole -/
def Full (n L : Nat) (l : Nat → Nat) : Prop := (∀ i j, i ≤ j → j < n → l i ≤ l j) ∧ (∀ i, i < n → 1 ≤ l i ∧ l i ≤ L) ∧ sm (fun i => 2 ^ (L - l i)) n = 2 ^ L
section
variable {n M L : Nat} {l : Nat → Nat}
theorem full_some (h : Full n L l) (h1 : 1 ≤ n) (hL : l (n - 1) = L) (hn : n ≤ 2 ^ M) (hM : M < L) : ∃ i, i < n ∧ l i < M := by
  by_cases e : ∃ i, i < n ∧ l i < M
  · exact e
  · exfalso
    have h2 : sm (fun i => 2 ^ (L - l i)) n < sm (fun _ => 2 ^ (L - M)) n := by
      refine sm_lt (fun i hi => ?_) (p := n - 1) (by omega) ?_
      · have h3 : M ≤ l i := by
          by_cases h4 : l i < M
          · exact absurd ⟨i, hi, h4⟩ e
          · omega
        exact Nat.pow_le_pow_right (by omega) (by omega)
      · show 2 ^ (L - l (n - 1)) < 2 ^ (L - M)
        rw [hL]
        exact Nat.pow_lt_pow_right (by omega) (by omega)
    rw [h.2.2, sm_const] at h2
    have h5 : n * 2 ^ (L - M) ≤ 2 ^ M * 2 ^ (L - M) := Nat.mul_le_mul_right _ hn
    rw [← Nat.pow_add, show M + (L - M) = L by omega] at h5
    omega
theorem cutL_ok (h : Full n L l) (hM1 : 1 ≤ M) : LenOk n M (cutL M l) := by
  refine ⟨fun i j hij hj => ?_, fun i hi => ?_⟩
  · have := h.1 i j hij hj
    unfold cutL; omega
  · have := h.2.1 i hi
    unfold cutL; omega
theorem cst_le (i : Nat) : cst M L l i ≤ 2 ^ (L - M) := by
  unfold cst
  split
  · exact Nat.sub_le _ _
  · exact Nat.zero_le _
theorem cst_zero (h : Full n L l) {j : Nat} (hj : j < n) (hl : l j ≤ M) : sm (cst M L l) (j + 1) = 0 := by
  rw [sm_congr (g := fun _ => 0) fun i hi => ?_, sm_const]
  · exact Nat.mul_zero _
  · have := h.1 i j (by omega) hj
    exact if_neg (by omega)
/-- what is owed in units of 2^-M is a whole number T, at least 1, and less than the number of lengths M -/
theorem cut_owed (h : Full n L l) (h1 : 1 ≤ n) (hL : l (n - 1) = L) (hM : M < L) :
    ∃ T, 1 ≤ T ∧ kr M (cutL M l) n = 2 ^ M + T ∧ sm (cst M L l) n = 2 ^ (L - M) * T ∧ T < zr M (cutL M l) n := by
  have hpt : ∀ i, i < n → 2 ^ (L - M) * 2 ^ (M - cutL M l i) = 2 ^ (L - l i) + cst M L l i := fun i hi => by
    have h2 := h.2.1 i hi
    unfold cst cutL
    by_cases e : M < l i
    · rw [if_pos e, Nat.min_eq_right (by omega), Nat.sub_self, Nat.pow_zero]
      have : (2 : Nat) ^ (L - l i) ≤ 2 ^ (L - M) := Nat.pow_le_pow_right (by omega) (by omega)
      omega
    · rw [if_neg e, Nat.min_eq_left (by omega), ← Nat.pow_add, show L - M + (M - l i) = L - l i by omega]
      omega
  have hsum : 2 ^ (L - M) * kr M (cutL M l) n = 2 ^ L + sm (cst M L l) n := by
    have h2 := sm_congr hpt
    rw [sm_mul (2 ^ (L - M)) (fun i => 2 ^ (M - cutL M l i)), sm_add, h.2.2] at h2
    exact h2
  have hp : 0 < (2 : Nat) ^ (L - M) := Nat.two_pow_pos _
  have hLM : (2 : Nat) ^ L = 2 ^ (L - M) * 2 ^ M := by rw [← Nat.pow_add, show L - M + M = L by omega]
  have hge : 2 ^ M ≤ kr M (cutL M l) n := by
    have h9 : 2 ^ (L - M) * 2 ^ M ≤ 2 ^ (L - M) * kr M (cutL M l) n := by
      rw [hsum, ← hLM]
      exact Nat.le_add_right _ _
    exact Nat.le_of_mul_le_mul_left h9 hp
  obtain ⟨T, hT⟩ : ∃ T, kr M (cutL M l) n = 2 ^ M + T := ⟨_, (Nat.add_sub_cancel' hge).symm⟩
  have hC : sm (cst M L l) n = 2 ^ (L - M) * T := by
    rw [hT, Nat.mul_add, ← hLM] at hsum
    omega
  have hlast : cst M L l (n - 1) = 2 ^ (L - M) - 1 := by
    unfold cst
    rw [if_pos (by omega), hL, Nat.sub_self, Nat.pow_zero]
  have h2p : 2 ≤ (2 : Nat) ^ (L - M) := by
    have := Nat.pow_le_pow_right (n := 2) (by omega) (show 1 ≤ L - M by omega)
    simpa using this
  refine ⟨T, ?_, hT, hC, ?_⟩
  · have h3 := sm_point (cst M L l) (p := n - 1) (n := n) (by omega)
    rw [hlast, hC] at h3
    by_cases e : T = 0
    · rw [e] at h3; omega
    · exact Nat.pos_of_ne_zero e
  · have h3 : sm (cst M L l) n < sm (fun i => 2 ^ (L - M) * (if cutL M l i = M then 1 else 0)) n := by
      refine sm_lt (fun i hi => ?_) (p := n - 1) (by omega) ?_
      · by_cases e : M < l i
        · have e2 : cutL M l i = M := by unfold cutL; omega
          show cst M L l i ≤ 2 ^ (L - M) * (if cutL M l i = M then 1 else 0)
          rw [if_pos e2, Nat.mul_one]
          exact cst_le i
        · have : cst M L l i = 0 := if_neg e
          rw [this]
          exact Nat.zero_le _
      · have e2 : cutL M l (n - 1) = M := by unfold cutL; omega
        show cst M L l (n - 1) < 2 ^ (L - M) * (if cutL M l (n - 1) = M then 1 else 0)
        rw [if_pos e2, Nat.mul_one, hlast]
        omega
    rw [sm_mul (2 ^ (L - M)) (fun i => if cutL M l i = M then 1 else 0), hC] at h3
    exact Nat.lt_of_mul_lt_mul_left h3
end
end Go.Proofs.YthkklojjpgjiiaaFmt
namespace Go.Proofs.YthkklojjpgjiiaaFmt

/-- T is owed -/
structure PayI (n M T i : Nat) (l : Nat → Nat) (r : Nat → Option Nat) : Prop where
  ok : LenOk n M l
  kr : kr M l n = 2 ^ M + T
  z : T < zr M l n
  last : ∀ k, 1 ≤ k → LastOk n M l r k
  hi : i < n ∧ ∀ j, i < j → j < n → l j = M
  r0 : ∀ q, r 0 = some q → q < n
/-- E is paid too much -/
structure OvI (n M E i : Nat) (l : Nat → Nat) (ro : Option Nat) : Prop where
  ok : LenOk n M l
  z : E < zr M l n
  ex : 0 < E → ∃ j, j < n ∧ l j < M
  no : ro = none → i < n ∧ ∀ j, i < j → j < n → l j = M
  so : ∀ q, ro = some q → q < n ∧ l q + 1 = M ∧ ∀ j, q < j → j < n → l j = M
section
variable {n M T E i : Nat} {l : Nat → Nat} {r : Nat → Option Nat} {ro : Option Nat}
theorem last_so (h : LenOk n M l) (hl : LastOk n M l r 1) : ∀ q, r 1 = some q → q < n ∧ l q + 1 = M ∧ ∀ j, q < j → j < n → l j = M := fun q hq => by
  obtain ⟨h1, h2, h3⟩ := hl.2 q hq
  refine ⟨h1, h2, fun j hj hjn => ?_⟩
  have h4 := h.1 q j (by omega) hjn
  have h5 := h3 j hj hjn
  have h6 := (h.2 j hjn).2
  omega
theorem PayI.done (h : PayI n M 0 i l r) : OvI n M 0 i l (r 1) :=
  ⟨h.ok, h.z, fun h0 => absurd h0 (Nat.lt_irrefl 0), fun _ => h.hi, last_so h.ok (h.last 1 (Nat.le_refl _))⟩
theorem OvI.stepS {q : Nat} (h : OvI n M (E + 1) i l (some q)) (hM : 2 ≤ M) : q + 1 < n ∧ l (q + 1) = M ∧ OvI n M E i (updN l (q + 1) (M - 1)) (some (q + 1)) := by
  obtain ⟨h1, h2, h3⟩ := h.so q rfl
  obtain ⟨h4, h5⟩ := zr_last h.ok (by have := h.z; omega)
  have hne : q ≠ n - 1 := fun e => by rw [← e] at h5; omega
  have hq1 : q + 1 < n := by omega
  have hl1 := h3 (q + 1) (by omega) hq1
  obtain ⟨g1, g2⟩ := over_step h.ok hM hq1 hl1 fun j hj => by
    have := h.ok.1 j q (by omega) h1
    omega
  refine ⟨hq1, hl1, g1, by have := h.z; omega, fun _ => ⟨q, h1, by rw [updN_ne _ _ _ _ (by omega)]; omega⟩, fun e => (by cases e), fun p e => ?_⟩
  cases e
  refine ⟨hq1, by rw [updN_same]; omega, fun j hj hjn => ?_⟩
  rw [updN_ne _ _ _ _ (by omega)]
  exact h3 j (by omega) hjn
/-- looking for the last length below M -/
theorem OvI.scan (h : OvI n M (E + 1) i l none) {i' : Nat} (_hi : i' < n) (h2 : ∀ j, i' < j → j < n → l j = M) (h3 : l i' = M) : 1 ≤ i' ∧ ∀ j, i' - 1 < j → j < n → l j = M := by
  obtain ⟨j0, h4, h5⟩ := h.ex (by omega)
  have h6 : j0 < i' := by
    by_cases e : j0 < i'
    · exact e
    · by_cases e2 : j0 = i'
      · rw [e2] at h5; omega
      · have := h2 j0 (by omega) h4
        omega
  refine ⟨by omega, fun j hj hjn => ?_⟩
  by_cases e : j = i'
  · rw [e]; exact h3
  · exact h2 j (by omega) hjn
theorem OvI.stepN (h : OvI n M (E + 1) i l none) (hM : 2 ≤ M) {i' : Nat} (hi : i' < n) (h2 : ∀ j, i' < j → j < n → l j = M) (h3 : l i' ≠ M) : i' + 1 < n ∧ l (i' + 1) = M ∧ OvI n M E i' (updN l (i' + 1) (M - 1)) (some (i' + 1)) := by
  obtain ⟨h4, h5⟩ := zr_last h.ok (by have := h.z; omega)
  have hne : i' ≠ n - 1 := fun e => by rw [← e] at h5; omega
  have hq1 : i' + 1 < n := by omega
  have hl1 := h2 (i' + 1) (by omega) hq1
  have hl0 := (h.ok.2 i' hi).2
  obtain ⟨g1, g2⟩ := over_step h.ok hM hq1 hl1 fun j hj => by
    have := h.ok.1 j i' (by omega) hi
    omega
  refine ⟨hq1, hl1, g1, by have := h.z; omega, fun _ => ⟨i', hi, by rw [updN_ne _ _ _ _ (by omega)]; omega⟩, fun e => (by cases e), fun p e => ?_⟩
  cases e
  refine ⟨hq1, by rw [updN_same]; omega, fun j hj hjn => ?_⟩
  rw [updN_ne _ _ _ _ (by omega)]
  exact h2 j (by omega) hjn
/-- some rank from 1 to M - 1 is not empty -/
theorem PayI.rank (h : PayI n M T i l r) (hn : n ≤ 2 ^ M) (hT : 1 ≤ T) : ∃ k p, 1 ≤ k ∧ k < M ∧ r k = some p := by
  obtain ⟨j, h1, h2⟩ := kr_some h.ok hn (by rw [h.kr]; omega)
  have h3 := (h.ok.2 j h1).1
  refine ⟨M - l j, ?_⟩
  cases hk : r (M - l j) with
  | none => exact absurd (by omega) ((h.last (M - l j) (by omega)).1 hk j h1)
  | some p => exact ⟨p, by omega, by omega, rfl⟩
theorem PayI.some_lt (h : PayI n M T i l r) {k p : Nat} (hk : 1 ≤ k) (hp : r k = some p) : p < n ∧ l p + k = M ∧ k < M := by
  obtain ⟨h1, h2, _⟩ := (h.last k hk).2 p hp
  have := (h.ok.2 p h1).1
  exact ⟨h1, h2, by omega⟩
/-- the table of last positions behind a payment of rank b -/
def payR (r : Nat → Option Nat) (l : Nat → Nat) (M b p : Nat) (k : Nat) : Option Nat :=
  if k = b then (if p = 0 then none else if l (p - 1) + b = M then some (p - 1) else none)
  else if k + 1 = b then (match r (b - 1) with | none => some p | some q => some q) else r k
theorem PayI.step {b p : Nat} (h : PayI n M T i l r) (hT : 1 ≤ T) (hb : 1 ≤ b) (hp : r b = some p) (hor : 2 ^ (b - 1) ≤ T ∨ ∀ k, 1 ≤ k → k < b → r k = none) :
    (∃ T', T = T' + 2 ^ (b - 1) ∧ PayI n M T' i (updN l p (l p + 1)) (payR r l M b p)) ∨ (∃ E, 1 ≤ E ∧ T + E = 2 ^ (b - 1) ∧ OvI n M E i (updN l p (l p + 1)) (payR r l M b p 1)) := by
  obtain ⟨p1, p2, p3⟩ := (h.last b hb).2 p hp
  obtain ⟨g1, g2, g3, g4⟩ := kr_step h.ok p1 p2 hb p3
  have hlast : ∀ k, 1 ≤ k → LastOk n M (updN l p (l p + 1)) (payR r l M b p) k :=
    last_step h.ok p1 p2 hb p3 h.last (fun h2 => by unfold payR; rw [if_neg (by omega), if_pos (by omega)]; cases r (b - 1) <;> rfl) (by unfold payR; rw [if_pos rfl]) fun k h2 h3 => by unfold payR; rw [if_neg h2, if_neg h3]
  have hlp1 := (h.ok.2 p p1)
  have hhi : i < n ∧ ∀ j, i < j → j < n → updN l p (l p + 1) j = M := by
    refine ⟨h.hi.1, fun j hj hjn => ?_⟩
    have h2 := h.hi.2 j hj hjn
    by_cases e : j = p
    · rw [e] at h2; omega
    · rw [updN_ne _ _ _ _ e]; exact h2
  have hr0 : ∀ q, payR r l M b p 0 = some q → q < n := by
    intro q hq
    unfold payR at hq
    rw [if_neg (by omega)] at hq
    by_cases e : b = 1
    · rw [if_pos (by omega), e, Nat.sub_self] at hq
      cases h0 : r 0 with
      | none => rw [h0] at hq; cases hq; exact p1
      | some q0 => rw [h0] at hq; cases hq; exact h.r0 _ h0
    · rw [if_neg (by omega)] at hq
      exact h.r0 q hq
  have hk := h.kr
  by_cases hle : 2 ^ (b - 1) ≤ T
  · refine .inl ⟨T - 2 ^ (b - 1), by omega, g1, by omega, by have := h.z; have := Nat.two_pow_pos (b - 1); omega, hlast, hhi, hr0⟩
  · have hno : ∀ k, 1 ≤ k → k < b → r k = none := by
      rcases hor with h2 | h2
      · exact absurd h2 hle
      · exact h2
    have hb2 : 2 ≤ b := by
      by_cases e : b = 1
      · subst e
        exact absurd (show 2 ^ (1 - 1) ≤ T from hT) hle
      · omega
    have hz := zr_over (b := b) (T := T) h.ok (fun k h1 h2 j hj => (h.last k h1).1 (hno k h1 h2) j hj) (by omega) hk h.z (by
      have := Nat.pow_le_pow_right (n := 2) (by omega) (show b - 1 ≤ b by omega)
      omega)
    have h22 : (2 : Nat) ^ b = 2 ^ (b - 1) + 2 ^ (b - 1) := by
      rw [show b = (b - 1) + 1 by omega, Nat.pow_succ, show b - 1 + 1 - 1 = b - 1 by omega]; omega
    have hzz := g4 hb2
    refine .inr ⟨2 ^ (b - 1) - T, by omega, by omega, g1, by omega, fun _ => ⟨p, p1, by rw [updN_same]; omega⟩, fun _ => hhi, last_so g1 (hlast 1 (Nat.le_refl _))⟩
/-- the last positions of the lengths, looked at from position 'pos' on -/
structure LastFrom (n M : Nat) (l : Nat → Nat) (pos cur : Nat) (r : Nat → Option Nat) : Prop where
  cm : cur ≤ M
  r0 : r 0 = none
  lo : ∀ j, pos ≤ j → j < n → cur ≤ l j
  at_ : cur = M ∨ ∃ p, pos ≤ p ∧ p < n ∧ l p = cur
  non : ∀ k, 1 ≤ k → r k = none → ∀ j, pos ≤ j → j < n → l j + k ≠ M
  som : ∀ k, 1 ≤ k → ∀ p, r k = some p → pos ≤ p ∧ p < n ∧ l p + k = M ∧ ∀ j, p < j → j < n → l j + k ≠ M
theorem LastFrom.start (hi : i < n ∧ ∀ j, i < j → j < n → l j = M) : LastFrom n M l (i + 1) M fun _ => none :=
  ⟨Nat.le_refl _, rfl, fun j hj hjn => by rw [hi.2 j (by omega) hjn]; exact Nat.le_refl _, .inl rfl, fun k hk _ j hj hjn => by rw [hi.2 j (by omega) hjn]; omega, fun k _ p hp => by cases hp⟩
theorem LastFrom.skip {pos cur : Nat} (h : LastFrom n M l (pos + 1) cur r) (hl : LenOk n M l) (hlt : l pos < M) (hge : cur ≤ l pos) : LastFrom n M l pos cur r := by
  have hcl : ∃ p, pos + 1 ≤ p ∧ p < n ∧ l p = cur := by
    rcases h.at_ with e | e
    · omega
    · exact e
  obtain ⟨p, p1, p2, p3⟩ := hcl
  have h4 := hl.1 pos p (by omega) p2
  have heq : l pos = cur := by omega
  refine ⟨h.cm, h.r0, fun j hj hjn => ?_, .inr ⟨p, by omega, p2, p3⟩, fun k hk hn j hj hjn => ?_, fun k hk q hq => ?_⟩
  · by_cases e : j = pos
    · rw [e]; exact hge
    · exact h.lo j (by omega) hjn
  · by_cases e : j = pos
    · rw [e, heq, ← p3]
      exact h.non k hk hn p p1 p2
    · exact h.non k hk hn j (by omega) hjn
  · obtain ⟨q1, q2⟩ := h.som k hk q hq
    exact ⟨by omega, q2⟩
theorem LastFrom.new {pos cur : Nat} (h : LastFrom n M l (pos + 1) cur r) (hl : LenOk n M l) (hp : pos < n) (hlt : l pos < cur) : LastFrom n M l pos (l pos) (fun k => if k = M - l pos then some pos else r k) := by
  have hcm := h.cm
  refine ⟨by omega, by show (if 0 = M - l pos then some pos else r 0) = none; rw [if_neg (by omega)]; exact h.r0, fun j hj hjn => ?_, .inr ⟨pos, Nat.le_refl _, hp, rfl⟩, fun k hk hn j hj hjn => ?_, fun k hk q hq => ?_⟩
  · exact hl.1 pos j hj hjn
  · by_cases e2 : k = M - l pos
    · simp only [e2, if_true] at hn
      cases hn
    · simp only [e2, if_false] at hn
      by_cases e : j = pos
      · rw [e]; omega
      · exact h.non k hk hn j (by omega) hjn
  · by_cases e2 : k = M - l pos
    · simp only [e2, if_true] at hq
      cases hq
      refine ⟨Nat.le_refl _, hp, by omega, fun j hj hjn => ?_⟩
      have := h.lo j (by omega) hjn
      omega
    · simp only [e2, if_false] at hq
      obtain ⟨q1, q2⟩ := h.som k hk q hq
      exact ⟨by omega, q2⟩
theorem LastFrom.all {cur : Nat} (h : LastFrom n M l 0 cur r) : ∀ k, 1 ≤ k → LastOk n M l r k := fun k hk =>
  ⟨fun hn j hj => h.non k hk hn j (Nat.zero_le _) hj, fun p hp => (h.som k hk p hp).2⟩
end
end Go.Proofs.YthkklojjpgjiiaaFmt
namespace Go.Proofs.YthkklojjpgjiiaaFmt

/-- a leaves and b inner nodes are picked, k inner nodes are made, q picks of the next one are done, the last pick was v -/
structure TI (cnt : Nat → Nat) (n a b k q v s : Nat) (wt pl pi mx : Nat → Nat) (P : Nat → Prop) : Prop where
  hab : a + b = 2 * k + q
  han : a ≤ n
  hbk : b ≤ k
  hL : a < n → v ≤ cnt (n - 1 - a)
  hR : b < k → v ≤ wt b
  wl : 0 < k → wt (k - 1) ≤ 2 * v
  ws : ∀ j, j + 1 < k → wt j ≤ wt (j + 1)
  pl1 : ∀ i, i < a → pl i ≤ k
  plm : ∀ i j, i ≤ j → j < a → pl i ≤ pl j
  pi1 : ∀ i, i < b → i < pi i ∧ pi i ≤ k
  pim : ∀ i j, i ≤ j → j < b → pi i ≤ pi j
  sum : ∀ F : Nat → Nat, sm (fun i => F (pl i)) a + sm (fun i => F (pi i)) b = sm (fun j => 2 * F j) k + q * F k
  mxv : ∀ j, j < k → mx j ≤ v
  rel : ∀ i, i < b → pi i < k → wt i ≤ mx (pi i) ∧ wt i + mx i ≤ wt (pi i)
  cur : ∀ i, i < b → pi i = k → P (wt i)
  tot : sm (fun i => cnt (n - 1 - i)) a + sm wt b = sm wt k + s
section
variable {cnt wt pl pi mx : Nat → Nat} {n a b k q v s : Nat} {P : Nat → Prop}
theorem sm_updN_last (f F : Nat → Nat) (a k : Nat) : sm (fun i => F (updN f a k i)) (a + 1) = sm (fun i => F (f i)) a + F k := by
  rw [sm, updN_same, sm_congr (g := fun i => F (f i)) fun i hi => by rw [updN_ne _ _ _ _ (by omega)]]
theorem TI.pickL (h : TI cnt n a b k q v s wt pl pi mx P) (hc : ∀ i j, i ≤ j → j < n → cnt j ≤ cnt i) (ha : a < n) (hle : b < k → cnt (n - 1 - a) ≤ wt b) :
    TI cnt n (a + 1) b k (q + 1) (cnt (n - 1 - a)) (s + cnt (n - 1 - a)) wt (updN pl a k) pi mx P := by
  have hv := h.hL ha
  refine ⟨by have := h.hab; omega, by omega, h.hbk, fun h1 => hc _ _ (by omega) (by omega), hle, fun h1 => by have := h.wl h1; omega, h.ws, fun i hi => ?_, fun i j hij hj => ?_, h.pi1, h.pim, fun F => ?_, fun j hj => Nat.le_trans (h.mxv j hj) hv, h.rel, h.cur, by rw [sm]; have := h.tot; omega⟩
  · by_cases e : i = a
    · rw [e, updN_same]; exact Nat.le_refl _
    · rw [updN_ne _ _ _ _ e]; exact h.pl1 i (by omega)
  · by_cases e : j = a
    · rw [e, updN_same]
      by_cases e2 : i = a
      · rw [e2, updN_same]; exact Nat.le_refl _
      · rw [updN_ne _ _ _ _ e2]; exact h.pl1 i (by omega)
    · rw [updN_ne _ _ _ _ e, updN_ne _ _ _ _ (by omega)]
      exact h.plm i j hij (by omega)
  · rw [sm_updN_last, Nat.add_mul, Nat.one_mul]
    have := h.sum F
    omega
theorem TI.pickR (h : TI cnt n a b k q v s wt pl pi mx P) (hb : b < k) (hle : a < n → wt b ≤ cnt (n - 1 - a)) :
    TI cnt n a (b + 1) k (q + 1) (wt b) (s + wt b) wt pl (updN pi b k) mx (fun z => P z ∨ z = wt b) := by
  have hv := h.hR hb
  refine ⟨by have := h.hab; omega, h.han, by omega, hle, fun h1 => h.ws b (by omega), fun h1 => by have := h.wl h1; omega, h.ws, h.pl1, h.plm, fun i hi => ?_, fun i j hij hj => ?_, fun F => ?_, fun j hj => Nat.le_trans (h.mxv j hj) hv, fun i hi hlt => ?_, fun i hi he => ?_, by rw [sm]; have := h.tot; omega⟩
  · by_cases e : i = b
    · rw [e, updN_same]; omega
    · rw [updN_ne _ _ _ _ e]; exact h.pi1 i (by omega)
  · by_cases e : j = b
    · rw [e, updN_same]
      by_cases e2 : i = b
      · rw [e2, updN_same]; exact Nat.le_refl _
      · rw [updN_ne _ _ _ _ e2]; exact (h.pi1 i (by omega)).2
    · rw [updN_ne _ _ _ _ e, updN_ne _ _ _ _ (by omega)]
      exact h.pim i j hij (by omega)
  · rw [sm_updN_last, Nat.add_mul, Nat.one_mul]
    have := h.sum F
    omega
  · by_cases e : i = b
    · rw [e, updN_same] at hlt; omega
    · rw [updN_ne _ _ _ _ e] at hlt ⊢
      exact h.rel i (by omega) hlt
  · by_cases e : i = b
    · rw [e]; exact .inr rfl
    · rw [updN_ne _ _ _ _ e] at he
      exact .inl (h.cur i (by omega) he)
/-- the next inner node is made of the picks x and y -/
theorem TI.make {x v0 : Nat} (h : TI cnt n a b k 2 v (x + v) wt pl pi mx P) (hx : x ≤ v) (h0 : v0 ≤ x) (hm : ∀ j, j < k → mx j ≤ v0) (hw : 0 < k → wt (k - 1) ≤ 2 * v0) (hP : ∀ z, P z → z = x ∨ z = v) :
    TI cnt n a b (k + 1) 0 v 0 (updN wt k (x + v)) pl pi (updN mx k v) (fun _ => False) := by
  have hbk := h.hbk
  refine ⟨by have := h.hab; omega, h.han, by omega, h.hL, fun h1 => ?_, fun _ => ?_, fun j hj => ?_, fun i hi => by have := h.pl1 i hi; omega, h.plm, fun i hi => by have := h.pi1 i hi; omega, h.pim, fun F => ?_, fun j hj => ?_, fun i hi hlt => ?_, fun i hi he => (by have := (h.pi1 i hi).2; omega), ?_⟩
  · by_cases e : b = k
    · rw [e, updN_same]; omega
    · rw [updN_ne _ _ _ _ e]; exact h.hR (by omega)
  · rw [show k + 1 - 1 = k by omega, updN_same]; omega
  · by_cases e : j + 1 = k
    · rw [updN_ne _ _ _ _ (by omega), e, updN_same]
      have := hw (by omega)
      rw [← e, show j + 1 - 1 = j by omega] at this
      omega
    · rw [updN_ne _ _ _ _ (by omega), updN_ne _ _ _ _ e]
      exact h.ws j (by omega)
  · rw [h.sum F, sm, Nat.zero_mul]
    rfl
  · by_cases e : j = k
    · rw [e, updN_same]; exact Nat.le_refl _
    · rw [updN_ne _ _ _ _ e]; exact h.mxv j (by omega)
  · have hik : i ≠ k := by omega
    rw [updN_ne wt _ _ i hik, updN_ne mx _ _ i hik]
    by_cases e : pi i = k
    · rw [e, updN_same, updN_same]
      have h2 := hm i (by omega)
      rcases hP _ (h.cur i hi e) with e2 | e2 <;> rw [e2] <;> omega
    · rw [updN_ne _ _ _ _ e, updN_ne _ _ _ _ e]
      exact h.rel i hi (by omega)
  · rw [sm, updN_same, sm_congr (n := b) (g := wt) fun i hi => updN_ne _ _ _ _ (by omega), sm_congr (n := k) (g := wt) fun i hi => updN_ne _ _ _ _ (by omega)]
    have := h.tot
    omega
end
end Go.Proofs.YthkklojjpgjiiaaFmt
