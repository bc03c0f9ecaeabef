/-
  Sums over positions, plain. Conditions: those of each.
  huff0's setMaxHeight, plain: lengths that are too long are cut, the sum of Kraft is paid back. Conditions: those of each.
  huff0's huffSort, plain: buckets by the length of a count, insertion in each. Conditions: those of each.
  Numbers of symbols, plain: total, greatest, last; scaled down. Conditions: those of each.
-/
import Derived.Test.YthkklojjpgjiiaaFmtRows
namespace Go.Proofs.YthkklojjpgjiiaaFmt

def sm (f : Nat → Nat) : Nat → Nat
  | 0 => 0
  | n + 1 => sm f n + f n
def updN (f : Nat → Nat) (p v : Nat) (i : Nat) : Nat := if i = p then v else f i
theorem updN_same (f : Nat → Nat) (p v : Nat) : updN f p v p = v := if_pos rfl
theorem updN_ne (f : Nat → Nat) (p v i : Nat) (h : i ≠ p) : updN f p v i = f i := if_neg h
section
variable {f g : Nat → Nat} {n : Nat}
theorem sm_congr (h : ∀ i, i < n → f i = g i) : sm f n = sm g n := by
  induction n with
  | zero => rfl
  | succ n ih => rw [sm, sm, ih fun i hi => h i (by omega), h n (by omega)]
theorem sm_le (h : ∀ i, i < n → f i ≤ g i) : sm f n ≤ sm g n := by
  induction n with
  | zero => exact Nat.le_refl _
  | succ n ih => rw [sm, sm]; exact Nat.add_le_add (ih fun i hi => h i (by omega)) (h n (by omega))
theorem sm_lt (h : ∀ i, i < n → f i ≤ g i) {p : Nat} (hp : p < n) (h2 : f p < g p) : sm f n < sm g n := by
  induction n with
  | zero => omega
  | succ n ih =>
    rw [sm, sm]
    by_cases e : p = n
    · subst e
      have := sm_le (f := f) (g := g) (n := p) fun i hi => h i (by omega)
      omega
    · have := ih (fun i hi => h i (by omega)) (by omega)
      have := h n (by omega)
      omega
theorem sm_const (c n : Nat) : sm (fun _ => c) n = n * c := by
  induction n with
  | zero => simp [sm]
  | succ n ih => rw [sm, ih, Nat.succ_mul]
theorem sm_add (f g : Nat → Nat) (n : Nat) : sm (fun i => f i + g i) n = sm f n + sm g n := by
  induction n with
  | zero => rfl
  | succ n ih => rw [sm, sm, sm, ih]; omega
theorem sm_mul (c : Nat) (f : Nat → Nat) (n : Nat) : sm (fun i => c * f i) n = c * sm f n := by
  induction n with
  | zero => simp [sm]
  | succ n ih => rw [sm, sm, ih, Nat.mul_add]
theorem sm_upd (f : Nat → Nat) {p n : Nat} (v : Nat) (hp : p < n) : sm (updN f p v) n + f p = sm f n + v := by
  induction n with
  | zero => omega
  | succ n ih =>
    rw [sm, sm]
    by_cases e : p = n
    · subst e
      rw [updN_same, sm_congr (f := updN f p v) (g := f) fun i hi => updN_ne _ _ _ _ (by omega)]
      omega
    · rw [updN_ne _ _ _ _ (fun h => e h.symm)]
      have := ih (by omega)
      omega
theorem sm_point (f : Nat → Nat) {p n : Nat} (hp : p < n) : f p ≤ sm f n := by
  induction n with
  | zero => omega
  | succ n ih =>
    rw [sm]
    by_cases e : p = n
    · subst e; omega
    · have := ih (by omega); omega
theorem sm_mod (f g : Nat → Nat) (m n : Nat) (h : ∀ i, i < n → f i % m = g i % m) : sm f n % m = sm g n % m := by
  induction n with
  | zero => rfl
  | succ n ih => rw [sm, sm, Nat.add_mod, ih fun i hi => h i (by omega), h n (by omega), ← Nat.add_mod]
end
end Go.Proofs.YthkklojjpgjiiaaFmt
namespace Go.Proofs.YthkklojjpgjiiaaFmt

/-- the sum of Kraft in units of 2^-M -/
def kr (M : Nat) (l : Nat → Nat) : Nat → Nat := sm fun i => 2 ^ (M - l i)
/-- how many lengths are M -/
def zr (M : Nat) (l : Nat → Nat) : Nat → Nat := sm fun i => if l i = M then 1 else 0
/-- lengths of n positions that rise, at least 1, at most M -/
def LenOk (n M : Nat) (l : Nat → Nat) : Prop := (∀ i j, i ≤ j → j < n → l i ≤ l j) ∧ ∀ i, i < n → 1 ≤ l i ∧ l i ≤ M
/-- r k is the last position of length M - k -/
def LastOk (n M : Nat) (l : Nat → Nat) (r : Nat → Option Nat) (k : Nat) : Prop :=
  (r k = none → ∀ i, i < n → l i + k ≠ M) ∧ ∀ p, r k = some p → p < n ∧ l p + k = M ∧ ∀ i, p < i → i < n → l i + k ≠ M
section
variable {n M : Nat} {l : Nat → Nat} {r : Nat → Option Nat}
/-- while more is owed than is paid, some length is below M -/
theorem kr_some (h : LenOk n M l) (hn : n ≤ 2 ^ M) (hk : 2 ^ M < kr M l n) : ∃ i, i < n ∧ l i < M := by
  by_cases e : ∃ i, i < n ∧ l i < M
  · exact e
  · exfalso
    have h2 : kr M l n = sm (fun _ => 1) n := sm_congr fun i hi => by
      have h3 : l i = M := by
        have := (h.2 i hi).2
        by_cases h4 : l i < M
        · exact absurd ⟨i, hi, h4⟩ e
        · omega
      show 2 ^ (M - l i) = 1
      rw [h3, Nat.sub_self, Nat.pow_zero]
    rw [h2, sm_const] at hk
    omega
/-- one more bit for the last position of rank b -/
theorem kr_step {p b : Nat} (h : LenOk n M l) (hp : p < n) (hb : l p + b = M) (hb1 : 1 ≤ b) (hlast : ∀ i, p < i → i < n → l i + b ≠ M) :
    LenOk n M (updN l p (l p + 1)) ∧ kr M (updN l p (l p + 1)) n + 2 ^ (b - 1) = kr M l n ∧ zr M l n ≤ zr M (updN l p (l p + 1)) n ∧ (2 ≤ b → zr M (updN l p (l p + 1)) n = zr M l n) := by
  refine ⟨⟨fun i j hij hj => ?_, fun i hi => ?_⟩, ?_, ?_, fun hb2 => ?_⟩
  · by_cases e1 : i = p <;> by_cases e2 : j = p
    · rw [e1, e2]; exact Nat.le_refl _
    · rw [e1, updN_same, updN_ne _ _ _ _ e2]
      have h1 := h.1 p j (by omega) hj
      have h2 := hlast j (by omega) hj
      omega
    · rw [e2, updN_same, updN_ne _ _ _ _ e1]
      have := h.1 i p (by omega) hp
      omega
    · rw [updN_ne _ _ _ _ e1, updN_ne _ _ _ _ e2]
      exact h.1 i j hij hj
  · by_cases e1 : i = p
    · rw [e1, updN_same]; omega
    · rw [updN_ne _ _ _ _ e1]; exact h.2 i hi
  · have e : kr M (updN l p (l p + 1)) n = sm (updN (fun i => 2 ^ (M - l i)) p (2 ^ (b - 1))) n := sm_congr fun i hi => by
      by_cases e1 : i = p
      · show 2 ^ (M - updN l p (l p + 1) i) = _
        rw [e1, updN_same, updN_same, show M - (l p + 1) = b - 1 by omega]
      · show 2 ^ (M - updN l p (l p + 1) i) = _
        rw [updN_ne _ _ _ _ e1, updN_ne _ _ _ _ e1]
    have h2 := sm_upd (fun i => 2 ^ (M - l i)) (2 ^ (b - 1)) hp
    have h3 : (2 : Nat) ^ (M - l p) = 2 ^ (b - 1) + 2 ^ (b - 1) := by
      rw [show M - l p = (b - 1) + 1 by omega, Nat.pow_succ]; omega
    rw [e]
    show _ = sm (fun i => 2 ^ (M - l i)) n
    simp only [h3] at h2
    omega
  · refine sm_le fun i hi => ?_
    by_cases e1 : i = p
    · rw [e1, if_neg (by omega)]; exact Nat.zero_le _
    · rw [updN_ne _ _ _ _ e1]; exact Nat.le_refl _
  · refine sm_congr fun i hi => ?_
    by_cases e1 : i = p
    · rw [e1, updN_same, if_neg (by omega), if_neg (by omega)]
    · rw [updN_ne _ _ _ _ e1]
/-- the table of last positions behind a step -/
theorem last_step {p b : Nat} (h : LenOk n M l) (hp : p < n) (hb : l p + b = M) (hb1 : 1 ≤ b) (hlast : ∀ i, p < i → i < n → l i + b ≠ M)
    {r' : Nat → Option Nat} (hr : ∀ k, 1 ≤ k → LastOk n M l r k)
    (e1 : 2 ≤ b → r' (b - 1) = (match r (b - 1) with | none => some p | some q => some q))
    (e2 : r' b = if p = 0 then none else if l (p - 1) + b = M then some (p - 1) else none)
    (e3 : ∀ k, k ≠ b → k + 1 ≠ b → r' k = r k) : ∀ k, 1 ≤ k → LastOk n M (updN l p (l p + 1)) r' k := by
  intro k hk
  by_cases ekb : k = b
  · subst ekb
    have hprev : ∀ i, i < p → l i ≤ l p := fun i hi => h.1 i p (by omega) hp
    have hnone : ∀ i, p ≤ i → i < n → updN l p (l p + 1) i + k ≠ M := fun i hi hin => by
      by_cases e : i = p
      · rw [e, updN_same]; omega
      · rw [updN_ne _ _ _ _ e]; exact hlast i (by omega) hin
    rw [LastOk, e2]
    by_cases e0 : p = 0
    · rw [if_pos e0]
      exact ⟨fun _ i hi => hnone i (by omega) hi, fun q hq => by cases hq⟩
    · rw [if_neg e0]
      by_cases e4 : l (p - 1) + k = M
      · rw [if_pos e4]
        refine ⟨fun hq => (by cases hq), fun q hq => ?_⟩
        cases hq
        refine ⟨by omega, by rw [updN_ne _ _ _ _ (by omega)]; exact e4, fun i hi hin => hnone i (by omega) hin⟩
      · rw [if_neg e4]
        refine ⟨fun _ i hi => ?_, fun q hq => by cases hq⟩
        by_cases hip : p ≤ i
        · exact hnone i hip hi
        · rw [updN_ne _ _ _ _ (by omega)]
          have h1 := h.1 i (p - 1) (by omega) (by omega)
          have h2 := h.1 (p - 1) p (by omega) hp
          omega
  · by_cases ek1 : k + 1 = b
    · have ek : k = b - 1 := by omega
      subst ek
      have hR := hr (b - 1) hk
      rw [LastOk, e1 (by omega)]
      cases hq : r (b - 1) with
      | none =>
        refine ⟨fun h => (by cases h), fun q hq2 => ?_⟩
        cases hq2
        refine ⟨hp, by rw [updN_same]; omega, fun i hi hin => ?_⟩
        rw [updN_ne _ _ _ _ (by omega)]
        exact hR.1 hq i hin
      | some q0 =>
        refine ⟨fun h => (by cases h), fun q hq2 => ?_⟩
        cases hq2
        obtain ⟨g1, g2, g3⟩ := hR.2 q0 hq
        have hne : q0 ≠ p := fun e => by rw [e] at g2; omega
        have hpq : p < q0 := by
          by_cases h5 : q0 < p
          · have := h.1 q0 p (by omega) hp; omega
          · omega
        refine ⟨g1, by rw [updN_ne _ _ _ _ hne]; exact g2, fun i hi hin => ?_⟩
        rw [updN_ne _ _ _ _ (by omega)]
        exact g3 i hi hin
    · have hR := hr k hk
      rw [LastOk, e3 k ekb ek1]
      have hpk : ∀ i, updN l p (l p + 1) i + k = M ↔ l i + k = M := fun i => by
        by_cases e : i = p
        · rw [e, updN_same]; omega
        · rw [updN_ne _ _ _ _ e]
      refine ⟨fun hq i hi => fun h6 => hR.1 hq i hi ((hpk i).1 h6), fun q hq => ?_⟩
      obtain ⟨g1, g2, g3⟩ := hR.2 q hq
      exact ⟨g1, (hpk q).2 g2, fun i hi hin h6 => g3 i hi hin ((hpk i).1 h6)⟩
/-- too much is paid back only where many lengths are M -/
theorem zr_over {b T : Nat} (h : LenOk n M l) (hr : ∀ k, 1 ≤ k → k < b → ∀ i, i < n → l i + k ≠ M) (hbM : b ≤ M) (hk : kr M l n = 2 ^ M + T) (hT : T < zr M l n) (hTb : T < 2 ^ b) : T + 2 ^ b ≤ zr M l n := by
  have hm : kr M l n % 2 ^ b = zr M l n % 2 ^ b := sm_mod _ _ _ _ fun i hi => by
    have h2 := (h.2 i hi).2
    by_cases e : l i = M
    · show 2 ^ (M - l i) % 2 ^ b = (if l i = M then 1 else 0) % 2 ^ b
      rw [if_pos e, e, Nat.sub_self, Nat.pow_zero]
    · show 2 ^ (M - l i) % 2 ^ b = (if l i = M then 1 else 0) % 2 ^ b
      rw [if_neg e]
      have h3 : b ≤ M - l i := by
        by_cases h4 : M - l i < b
        · exact absurd (by omega) (hr (M - l i) (by omega) h4 i hi)
        · omega
      rw [show M - l i = b + (M - l i - b) by omega, Nat.pow_add, Nat.mul_mod_right, Nat.zero_mod]
  have h1 : 2 ^ M % 2 ^ b = 0 := by
    rw [show M = b + (M - b) by omega, Nat.pow_add, Nat.mul_mod_right]
  rw [hk, Nat.add_mod, h1, Nat.zero_add, Nat.mod_mod, Nat.mod_eq_of_lt hTb] at hm
  generalize zr M l n = Z at *
  have h2 := Nat.div_add_mod Z (2 ^ b)
  rw [← hm] at h2
  have h3 : 1 ≤ Z / 2 ^ b := by
    by_cases e : Z / 2 ^ b = 0
    · rw [e] at h2; omega
    · exact Nat.pos_of_ne_zero e
  have h4 : 2 ^ b * 1 ≤ 2 ^ b * (Z / 2 ^ b) := Nat.mul_le_mul_left _ h3
  omega
/-- one bit less for the first length M -/
theorem over_step {p : Nat} (h : LenOk n M l) (hM : 2 ≤ M) (hp : p < n) (hlp : l p = M) (hbe : ∀ i, i < p → l i < M) :
    LenOk n M (updN l p (M - 1)) ∧ zr M (updN l p (M - 1)) n + 1 = zr M l n := by
  refine ⟨⟨fun i j hij hj => ?_, fun i hi => ?_⟩, ?_⟩
  · by_cases e1 : i = p <;> by_cases e2 : j = p
    · rw [e1, e2]; exact Nat.le_refl _
    · rw [e1, updN_same, updN_ne _ _ _ _ e2]
      have h1 := h.1 p j (by omega) hj
      omega
    · rw [e2, updN_same, updN_ne _ _ _ _ e1]
      have := hbe i (by omega)
      omega
    · rw [updN_ne _ _ _ _ e1, updN_ne _ _ _ _ e2]
      exact h.1 i j hij hj
  · by_cases e1 : i = p
    · rw [e1, updN_same]; omega
    · rw [updN_ne _ _ _ _ e1]; exact h.2 i hi
  · have e : zr M (updN l p (M - 1)) n = sm (updN (fun i => if l i = M then 1 else 0) p 0) n := sm_congr fun i hi => by
      by_cases e1 : i = p
      · show (if updN l p (M - 1) i = M then 1 else 0) = _
        rw [e1, updN_same, updN_same, if_neg (by omega)]
      · show (if updN l p (M - 1) i = M then 1 else 0) = _
        rw [updN_ne _ _ _ _ e1, updN_ne _ _ _ _ e1]
    have h2 := sm_upd (fun i => if l i = M then 1 else 0) 0 hp
    simp only [hlp, if_true] at h2
    rw [e]
    exact h2
/-- where lengths M are left, the last one is M -/
theorem zr_last (h : LenOk n M l) (hz : 1 ≤ zr M l n) : 1 ≤ n ∧ l (n - 1) = M := by
  have hn : 1 ≤ n := by
    by_cases e : n = 0
    · subst e; exact absurd hz (by simp [zr, sm])
    · omega
  refine ⟨hn, ?_⟩
  by_cases e : l (n - 1) = M
  · exact e
  · exfalso
    have h2 : zr M l n = sm (fun _ => 0) n := sm_congr fun i hi => by
      have h3 := h.1 i (n - 1) (by omega) (by omega)
      have h4 := (h.2 (n - 1) (by omega)).2
      exact if_neg (by omega)
    rw [h2, sm_const] at hz
    omega
end
end Go.Proofs.YthkklojjpgjiiaaFmt
namespace Go.Proofs.YthkklojjpgjiiaaFmt

/-- the length of a count -/
def hb (c : Nat) : Nat := (c + 1).log2
theorem hb_mono {a b : Nat} (h : a ≤ b) : hb a ≤ hb b := by
  unfold hb
  exact (Nat.le_log2 (by omega)).2 (Nat.le_trans (Nat.log2_self_le (by omega)) (by omega))
theorem hb_lt {c : Nat} (h : c < 65536) : hb c < 17 := (Nat.log2_lt (by omega)).2 (by omega)
theorem hb_pos (c : Nat) : 1 ≤ hb c ↔ 0 < c := by
  unfold hb
  rw [Nat.le_log2 (by omega)]
  omega
/-- how many symbols have a count of length r -/
def hc (C : Nat → Nat) (r n : Nat) : Nat := sm (fun i => if hb (C i) = r then 1 else 0) n
/-- where bucket r begins: behind all symbols with a count of length r and more -/
def bs (C : Nat → Nat) (S r : Nat) : Nat := sm (fun i => if r ≤ hb (C i) then 1 else 0) S
/-- where bucket r ends once n symbols are laid -/
def cr (C : Nat → Nat) (S r n : Nat) : Nat := bs C S r + sm (fun i => if hb (C i) + 1 = r then 1 else 0) n
section
variable {C : Nat → Nat} {S : Nat}
theorem bs_succ (r : Nat) : bs C S (r + 1) + hc C r S = bs C S r := by
  unfold bs hc
  rw [← sm_add]
  refine sm_congr fun i _ => ?_
  show (if r + 1 ≤ hb (C i) then 1 else 0) + (if hb (C i) = r then 1 else 0) = (if r ≤ hb (C i) then 1 else 0)
  by_cases h : hb (C i) = r
  · rw [if_neg (by omega), if_pos h, if_pos (by omega)]
  · by_cases h2 : r ≤ hb (C i)
    · rw [if_pos (by omega), if_neg h, if_pos h2]
    · rw [if_neg (by omega), if_neg h, if_neg h2]
theorem bs_anti {r r' : Nat} (h : r ≤ r') : bs C S r' ≤ bs C S r := sm_le fun i _ => by
  show (if r' ≤ hb (C i) then 1 else 0) ≤ (if r ≤ hb (C i) then 1 else 0)
  split
  · rw [if_pos (by omega)]; exact Nat.le_refl _
  · exact Nat.zero_le _
theorem bs_zero : bs C S 0 = S := by
  unfold bs
  rw [sm_congr (g := fun _ => 1) fun i _ => if_pos (Nat.zero_le _), sm_const]
  omega
theorem bs_le (r : Nat) : bs C S r ≤ S := by
  have := bs_anti (C := C) (S := S) (Nat.zero_le r)
  rwa [bs_zero] at this
theorem bs_high (hC : ∀ i, C i < 65536) {r : Nat} (h : 17 ≤ r) : bs C S r = 0 := by
  unfold bs
  rw [sm_congr (g := fun _ => 0) fun i _ => if_neg (by have := hb_lt (hC i); omega), sm_const, Nat.mul_zero]
theorem hc_le (r n : Nat) : hc C r n ≤ n := by
  have := sm_le (f := fun i => if hb (C i) = r then 1 else 0) (g := fun _ => 1) (n := n) fun j _ => by show (if hb (C j) = r then 1 else 0) ≤ 1; split <;> omega
  rw [sm_const] at this
  unfold hc
  omega
theorem hc_step (r n : Nat) : hc C r (n + 1) = hc C r n + (if hb (C n) = r then 1 else 0) := rfl
theorem hc_high (hC : ∀ i, C i < 65536) {r : Nat} (n : Nat) (h : 17 ≤ r) : hc C r n = 0 := by
  unfold hc
  rw [sm_congr (g := fun _ => 0) fun i _ => if_neg (by have := hb_lt (hC i); omega), sm_const, Nat.mul_zero]
theorem cr_zero (r : Nat) : cr C S r 0 = bs C S r := rfl
theorem cr_step (r n : Nat) : cr C S r (n + 1) = cr C S r n + (if hb (C n) + 1 = r then 1 else 0) := by
  unfold cr
  rw [sm]
  omega
theorem cr_ge (r n : Nat) : bs C S r ≤ cr C S r n := Nat.le_add_right _ _
theorem cr_eq (r n : Nat) : cr C S (r + 1) n = bs C S (r + 1) + hc C r n := by
  unfold cr hc
  congr 1
  refine sm_congr fun i _ => ?_
  by_cases h : hb (C i) = r
  · rw [if_pos (by omega), if_pos h]
  · rw [if_neg (by omega), if_neg h]
theorem cr_zero_r (n : Nat) : cr C S 0 n = bs C S 0 := by
  unfold cr
  rw [sm_congr (g := fun _ => 0) fun i _ => if_neg (by omega), sm_const, Nat.mul_zero, Nat.add_zero]
theorem hc_mono (r : Nat) {n m : Nat} (h : n ≤ m) : hc C r n ≤ hc C r m := by
  induction m with
  | zero => rw [show n = 0 by omega]; exact Nat.le_refl _
  | succ m ih =>
    by_cases e : n = m + 1
    · rw [e]; exact Nat.le_refl _
    · rw [hc_step]
      have := ih (by omega)
      omega
theorem cr_le (r : Nat) {n : Nat} (hn : n ≤ S) : cr C S (r + 1) n ≤ bs C S r := by
  rw [cr_eq, ← bs_succ r]
  exact Nat.add_le_add_left (hc_mono r hn) _
theorem cr_all (r : Nat) : cr C S (r + 1) S = bs C S r := by rw [cr_eq, bs_succ]
theorem cr_lt {n : Nat} (hn : n < S) : cr C S (hb (C n) + 1) n < bs C S (hb (C n)) := by
  have h1 := cr_le (C := C) (S := S) (hb (C n)) (n := n + 1) (by omega)
  rw [cr_step, if_pos rfl] at h1
  omega
theorem cr_ltS {n : Nat} (hn : n < S) : cr C S (hb (C n) + 1) n < S := Nat.lt_of_lt_of_le (cr_lt hn) (bs_le _)

/-- n symbols are laid: sy p is the symbol of position p -/
structure SortI (C : Nat → Nat) (S n : Nat) (sy : Nat → Nat) : Prop where
  cell : ∀ r p, bs C S (r + 1) ≤ p → p < cr C S (r + 1) n → sy p < n ∧ hb (C (sy p)) = r
  ord : ∀ r p, bs C S (r + 1) ≤ p → p + 1 < cr C S (r + 1) n → C (sy (p + 1)) ≤ C (sy p)
  all : ∀ i, i < n → ∃ p, bs C S (hb (C i) + 1) ≤ p ∧ p < cr C S (hb (C i) + 1) n ∧ sy p = i
theorem SortI.zero (C : Nat → Nat) (S : Nat) (sy : Nat → Nat) : SortI C S 0 sy :=
  ⟨fun r p h1 h2 => (by rw [cr_zero] at h2; omega), fun r p h1 h2 => (by rw [cr_zero] at h2; omega), fun i hi => by omega⟩
/-- symbol n at position p, those behind it one further -/
def insS (sy : Nat → Nat) (n p P q : Nat) : Nat := if q < p then sy q else if q = p then n else if q ≤ P then sy (q - 1) else sy q
variable {n p : Nat} {sy : Nat → Nat}
theorem SortI.step (h : SortI C S n sy) (hn : n < S) (h1 : bs C S (hb (C n) + 1) ≤ p) (h2 : p ≤ cr C S (hb (C n) + 1) n)
    (h3 : ∀ q, p ≤ q → q < cr C S (hb (C n) + 1) n → C (sy q) < C n) (h4 : p = bs C S (hb (C n) + 1) ∨ C n ≤ C (sy (p - 1))) :
    SortI C S (n + 1) (insS sy n p (cr C S (hb (C n) + 1) n)) := by
  have hlt := cr_lt hn (C := C)
  obtain ⟨P, hP⟩ : ∃ P, cr C S (hb (C n) + 1) n = P := ⟨_, rfl⟩
  have hP1 : cr C S (hb (C n) + 1) (n + 1) = P + 1 := by rw [cr_step, if_pos rfl, hP]
  rw [hP] at h2 h3 hlt ⊢
  -- another bucket's positions stand as they were
  have hoth : ∀ r, r ≠ hb (C n) → cr C S (r + 1) (n + 1) = cr C S (r + 1) n ∧ ∀ q, bs C S (r + 1) ≤ q → q < cr C S (r + 1) n → insS sy n p P q = sy q := fun r hr => by
    refine ⟨by rw [cr_step, if_neg (by omega)]; rfl, fun q hq1 hq2 => ?_⟩
    have h5 := cr_le (C := C) (S := S) r (n := n) (by omega)
    unfold insS
    by_cases h6 : r < hb (C n)
    · have h7 := bs_anti (C := C) (S := S) (show r + 1 ≤ hb (C n) by omega)
      rw [if_neg (by omega), if_neg (by omega), if_neg (by omega)]
    · have h7 := bs_anti (C := C) (S := S) (show hb (C n) + 1 ≤ r by omega)
      rw [if_pos (by omega)]
  refine ⟨fun r q hq1 hq2 => ?_, fun r q hq1 hq2 => ?_, fun i hi => ?_⟩
  · by_cases hr : r = hb (C n)
    · subst hr
      rw [hP1] at hq2
      have hc0 := fun q' => h.cell (hb (C n)) q'
      rw [hP] at hc0
      unfold insS
      by_cases e1 : q < p
      · rw [if_pos e1]
        have := hc0 q hq1 (by omega)
        exact ⟨by omega, this.2⟩
      · rw [if_neg e1]
        by_cases e2 : q = p
        · rw [if_pos e2]; exact ⟨by omega, rfl⟩
        · rw [if_neg e2, if_pos (by omega)]
          have := hc0 (q - 1) (by omega) (by omega)
          exact ⟨by omega, this.2⟩
    · obtain ⟨g1, g2⟩ := hoth r hr
      rw [g1] at hq2
      rw [g2 q hq1 hq2]
      have := h.cell r q hq1 hq2
      exact ⟨by omega, this.2⟩
  · by_cases hr : r = hb (C n)
    · subst hr
      rw [hP1] at hq2
      have ho0 := fun q' => h.ord (hb (C n)) q'
      rw [hP] at ho0
      unfold insS
      by_cases e1 : q + 1 < p
      · rw [if_pos e1, if_pos (by omega)]
        exact ho0 q hq1 (by omega)
      · rw [if_neg e1]
        by_cases e2 : q + 1 = p
        · rw [if_pos e2, if_pos (by omega)]
          rcases h4 with h4 | h4
          · omega
          · rwa [show p - 1 = q by omega] at h4
        · rw [if_neg e2, if_pos (by omega), if_neg (by omega)]
          by_cases e3 : q = p
          · rw [if_pos e3, show q + 1 - 1 = q by omega]
            exact Nat.le_of_lt (h3 q (by omega) (by omega))
          · rw [if_neg e3, if_pos (by omega), show q + 1 - 1 = q - 1 + 1 by omega]
            exact ho0 (q - 1) (by omega) (by omega)
    · obtain ⟨g1, g2⟩ := hoth r hr
      rw [g1] at hq2
      rw [g2 q hq1 (by omega), g2 (q + 1) (by omega) hq2]
      exact h.ord r q hq1 hq2
  · by_cases e : i = n
    · subst e
      refine ⟨p, h1, by omega, ?_⟩
      unfold insS
      rw [if_neg (by omega), if_pos rfl]
    · obtain ⟨q, g1, g2, g3⟩ := h.all i (by omega)
      by_cases hr : hb (C i) = hb (C n)
      · rw [hr] at g1 g2 ⊢
        rw [hP] at g2
        rw [hP1]
        by_cases e1 : q < p
        · refine ⟨q, g1, by omega, ?_⟩
          unfold insS
          rw [if_pos e1]; exact g3
        · refine ⟨q + 1, by omega, by omega, ?_⟩
          unfold insS
          rw [if_neg (by omega), if_neg (by omega), if_pos (by omega)]
          exact g3
      · obtain ⟨k1, k2⟩ := hoth _ hr
        refine ⟨q, g1, by rw [k1]; exact g2, ?_⟩
        rw [k2 q g1 g2]; exact g3
/-- all symbols are laid: counts fall, the used ones stand first -/
structure Sorted (C : Nat → Nat) (S : Nat) (sy : Nat → Nat) : Prop where
  lt : ∀ p, p < S → sy p < S
  ord : ∀ p q, p ≤ q → q < S → C (sy q) ≤ C (sy p)
  all : ∀ i, i < S → ∃ p, p < S ∧ sy p = i
  used : ∀ p, p < S → (0 < C (sy p) ↔ p < bs C S 1)
/-- each position lies in a bucket -/
theorem bucket_of (hC : ∀ i, C i < 65536) (p : Nat) (hp : p < S) : ∃ r, bs C S (r + 1) ≤ p ∧ p < bs C S r := by
  have h0 : p < bs C S 0 := by rw [bs_zero]; exact hp
  have h17 : bs C S 17 ≤ p := by rw [bs_high hC (Nat.le_refl _)]; exact Nat.zero_le _
  have key : ∀ k, k ≤ 17 → bs C S k ≤ p → ∃ r, bs C S (r + 1) ≤ p ∧ p < bs C S r := by
    intro k
    induction k with
    | zero => intro _ h; omega
    | succ k ih =>
      intro h1 h2
      by_cases e : p < bs C S k
      · exact ⟨k, h2, e⟩
      · exact ih (by omega) (by omega)
  exact key 17 (Nat.le_refl _) h17
theorem SortI.done (h : SortI C S S sy) (hC : ∀ i, C i < 65536) : Sorted C S sy := by
  have hcell : ∀ r p, bs C S (r + 1) ≤ p → p < bs C S r → sy p < S ∧ hb (C (sy p)) = r := fun r p h1 h2 => h.cell r p h1 (by rw [cr_all]; exact h2)
  have hord1 : ∀ p, p + 1 < S → C (sy (p + 1)) ≤ C (sy p) := fun p hp => by
    obtain ⟨r, h1, h2⟩ := bucket_of (S := S) hC p (by omega)
    by_cases e : p + 1 < bs C S r
    · exact h.ord r p h1 (by rw [cr_all]; exact e)
    · obtain ⟨r2, h3, h4⟩ := bucket_of hC (p + 1) hp
      have hr : r2 < r := by
        by_cases e2 : r2 < r
        · exact e2
        · have := bs_anti (C := C) (S := S) (show r ≤ r2 by omega)
          omega
      have h5 := (hcell r p h1 h2).2
      have h6 := (hcell r2 (p + 1) h3 h4).2
      by_cases e3 : C (sy (p + 1)) ≤ C (sy p)
      · exact e3
      · have := hb_mono (show C (sy p) ≤ C (sy (p + 1)) by omega)
        omega
  refine ⟨fun p hp => ?_, fun p q hpq hq => ?_, fun i hi => ?_, fun p hp => ?_⟩
  · obtain ⟨r, h1, h2⟩ := bucket_of hC p hp
    exact (hcell r p h1 h2).1
  · obtain ⟨d, rfl⟩ : ∃ d, q = p + d := ⟨q - p, by omega⟩
    clear hpq
    induction d with
    | zero => exact Nat.le_refl _
    | succ d ih => exact Nat.le_trans (hord1 (p + d) (by omega)) (ih (by omega))
  · obtain ⟨p, h1, h2, h3⟩ := h.all i hi
    rw [cr_all] at h2
    exact ⟨p, Nat.lt_of_lt_of_le h2 (bs_le _), h3⟩
  · obtain ⟨r, h1, h2⟩ := bucket_of hC p hp
    have h5 := (hcell r p h1 h2).2
    rw [← hb_pos, h5]
    constructor
    · intro h6
      exact Nat.lt_of_lt_of_le h2 (bs_anti h6)
    · intro h6
      by_cases e : 1 ≤ r
      · exact e
      · rw [show r = 0 by omega, Nat.zero_add] at h1
        omega
/-- how many are used -/
theorem bs_one : bs C S 1 = sm (fun i => if 0 < C i then 1 else 0) S := sm_congr fun i _ => by
  by_cases h : 0 < C i
  · rw [if_pos ((hb_pos _).2 h), if_pos h]
  · rw [if_neg (fun h2 => h ((hb_pos _).1 h2)), if_neg h]
end
end Go.Proofs.YthkklojjpgjiiaaFmt
namespace Go.Proofs.YthkklojjpgjiiaaFmt

/-- how many of the first n are used -/
def usd (h : Nat → Nat) (n : Nat) : Nat := sm (fun i => if 0 < h i then 1 else 0) n
/-- after i symbols: total, greatest, last used one -/
structure TotI (h : Nat → Nat) (i T mx S : Nat) : Prop where
  tot : T = sm h i
  mx1 : ∀ j, j < i → h j ≤ mx
  mx2 : mx = 0 ∨ ∃ j, j < i ∧ h j = mx
  s1 : ∀ j, j < i → 0 < h j → j < S
  s2 : S ≤ i
section
variable {h : Nat → Nat} {i T mx S : Nat}
theorem TotI.zero (h : Nat → Nat) : TotI h 0 0 0 0 := ⟨rfl, fun j hj => by omega, .inl rfl, fun j hj => by omega, Nat.le_refl _⟩
theorem TotI.step (t : TotI h i T mx S) : TotI h (i + 1) (T + h i) (if mx < h i then h i else mx) (if 0 < h i then i + 1 else S) := by
  refine ⟨by rw [t.tot, sm], fun j hj => ?_, ?_, fun j hj h0 => ?_, ?_⟩
  · by_cases e : j = i
    · rw [e]; split <;> omega
    · have := t.mx1 j (by omega)
      split <;> omega
  · by_cases e : mx < h i
    · rw [if_pos e]; exact .inr ⟨i, by omega, rfl⟩
    · rw [if_neg e]
      rcases t.mx2 with h1 | ⟨j, h1, h2⟩
      · exact .inl h1
      · exact .inr ⟨j, by omega, h2⟩
  · by_cases e : j = i
    · rw [e] at h0 ⊢
      rw [if_pos h0]; omega
    · have := t.s1 j (by omega) h0
      split <;> omega
  · have := t.s2
    split <;> omega
theorem usd_le (h : Nat → Nat) (n : Nat) : usd h n ≤ sm h n := sm_le fun j _ => by
  show (if 0 < h j then 1 else 0) ≤ h j
  split <;> omega
theorem usd_zero {n : Nat} (hz : ∀ j, j < n → h j = 0) : usd h n = 0 := by
  unfold usd
  rw [sm_congr (g := fun _ => 0) fun j hj => by show (if 0 < h j then 1 else 0) = 0; rw [hz j hj]; rfl, sm_const, Nat.mul_zero]
/-- one symbol alone takes all -/
theorem usd_alone {n p : Nat} (hp : p < n) (hz : ∀ j, j < n → j ≠ p → h j = 0) : usd h n ≤ 1 := by
  have h1 := sm_upd (fun j => if 0 < h j then 1 else 0) 0 hp
  have h2 : sm (updN (fun j => if 0 < h j then 1 else 0) p 0) n = 0 := by
    rw [sm_congr (g := fun _ => 0) fun j hj => ?_, sm_const, Nat.mul_zero]
    by_cases e : j = p
    · rw [e, updN_same]
    · rw [updN_ne _ _ _ _ e]
      show (if 0 < h j then 1 else 0) = 0
      rw [hz j hj e]; rfl
  have h3 : (if 0 < h p then 1 else 0) ≤ 1 := by split <;> omega
  have h4 : usd h n + 0 = 0 + (if 0 < h p then 1 else 0) := by
    rw [h2] at h1
    unfold usd
    omega
  omega
theorem TotI.mx_lt (t : TotI h i T mx S) (hu : 2 ≤ usd h i) : mx < T := by
  have hT := t.tot
  rcases t.mx2 with h1 | ⟨p, h1, h2⟩
  · have := usd_le h i
    omega
  · have h3 := sm_upd h 0 h1
    have h4 : 1 ≤ sm (updN h p 0) i := by
      by_cases e : 1 ≤ sm (updN h p 0) i
      · exact e
      · exfalso
        have h5 : usd h i ≤ 1 := usd_alone h1 fun j hj hne => by
          have h6 := sm_point (updN h p 0) hj
          rw [updN_ne _ _ _ _ hne] at h6
          omega
        omega
    omega
theorem TotI.two (t : TotI h i T mx S) (hm : mx ≠ T) : 2 ≤ usd h i := by
  by_cases e : 2 ≤ usd h i
  · exact e
  · exfalso
    have hsum : ∀ p, p < i → 0 < h p → T = h p := fun p hp h0 => by
      have h1 := sm_upd (fun j => if 0 < h j then 1 else 0) 0 hp
      have h2 : sm (updN (fun j => if 0 < h j then 1 else 0) p 0) i = 0 := by
        have : (if 0 < h p then 1 else 0) = 1 := if_pos h0
        unfold usd at e
        simp only [this] at h1
        omega
      have h3 := sm_upd h 0 hp
      have h4 : sm (updN h p 0) i = 0 := by
        rw [sm_congr (g := fun _ => 0) fun j hj => ?_, sm_const, Nat.mul_zero]
        have h5 := sm_point (updN (fun j => if 0 < h j then 1 else 0) p 0) hj
        by_cases e2 : j = p
        · rw [e2, updN_same]
        · rw [updN_ne _ _ _ _ e2] at h5 ⊢
          by_cases e3 : 0 < h j
          · rw [if_pos e3] at h5; omega
          · show h j = 0; omega
      rw [t.tot]
      omega
    rcases t.mx2 with h1 | ⟨p, h1, h2⟩
    · have h3 : sm h i = 0 := by
        rw [sm_congr (g := fun _ => 0) fun j hj => ?_, sm_const, Nat.mul_zero]
        have := t.mx1 j hj
        show h j = 0
        omega
      have := t.tot
      omega
    · by_cases e2 : 0 < h p
      · exact hm (by rw [hsum p h1 e2, h2])
      · have h3 : sm h i = 0 := by
          rw [sm_congr (g := fun _ => 0) fun j hj => ?_, sm_const, Nat.mul_zero]
          have := t.mx1 j hj
          show h j = 0
          omega
        have := t.tot
        omega
theorem TotI.few (t : TotI h i T mx S) (hx : S < 2 ∨ mx = T) : usd h i < 2 := by
  rcases hx with hx | hx
  · by_cases e : 0 < i
    · have : usd h i ≤ 1 := usd_alone (p := 0) e fun j hj hne => by
        by_cases e2 : 0 < h j
        · have := t.s1 j hj e2
          omega
        · omega
      omega
    · rw [show i = 0 by omega]
      show 0 < 2
      omega
  · by_cases e : 2 ≤ usd h i
    · have := t.mx_lt e
      omega
    · omega
/-- used ones lie below S -/
theorem TotI.usd_S (t : TotI h i T mx S) : usd h S = usd h i := by
  have h1 : ∀ d, S + d ≤ i → usd h (S + d) = usd h S := by
    intro d
    induction d with
    | zero => intro _; rfl
    | succ d ih =>
      intro hd
      show usd h (S + d) + (if 0 < h (S + d) then 1 else 0) = _
      rw [ih (by omega), if_neg (fun h0 => by have := t.s1 (S + d) (by omega) h0; omega)]
      rfl
  have := h1 (i - S) (by have := t.s2; omega)
  rw [show S + (i - S) = i by have := t.s2; omega] at this
  exact this.symm
/-- scaled down by P, rounded up -/
def scl (h : Nat → Nat) (P i : Nat) : Nat := (h i + (P - 1)) / P
theorem scl_pos {P : Nat} (hP : 1 ≤ P) (i : Nat) : 0 < scl h P i ↔ 0 < h i := by
  unfold scl
  constructor
  · intro h1
    by_cases e : 0 < h i
    · exact e
    · exfalso
      rw [show h i = 0 by omega, Nat.zero_add, Nat.div_eq_of_lt (by omega)] at h1
      omega
  · intro h1
    exact Nat.div_pos (by omega) (by omega)
theorem scl_le {P : Nat} (hP : 1 ≤ P) (i : Nat) : scl h P i ≤ h i := by
  unfold scl
  by_cases e : h i = 0
  · rw [e, Nat.zero_add, Nat.div_eq_of_lt (by omega)]; omega
  · have h2 : h i + (P - 1) ≤ h i * P := by
      obtain ⟨a, ha⟩ : ∃ a, h i = a + 1 := ⟨h i - 1, by omega⟩
      obtain ⟨b, hb⟩ : ∃ b, P = b + 1 := ⟨P - 1, by omega⟩
      rw [ha, hb, Nat.succ_mul, Nat.mul_succ]
      have := Nat.zero_le (a * b)
      omega
    exact Nat.le_trans (Nat.div_le_div_right h2) (by rw [Nat.mul_div_cancel _ (by omega)]; exact Nat.le_refl _)
theorem scl_usd {P : Nat} (hP : 1 ≤ P) (n : Nat) : usd (scl h P) n = usd h n := sm_congr fun i _ => by
  by_cases e : 0 < h i
  · rw [if_pos ((scl_pos hP i).2 e), if_pos e]
  · rw [if_neg (fun h2 => e ((scl_pos hP i).1 h2)), if_neg e]
theorem scl_sum {P : Nat} (hP : 1 ≤ P) (hT : T = sm h 256) (hd : T / P ≤ 262143) : sm (scl h P) 256 ≤ 300000 := by
  have h1 : sm (fun i => P * scl h P i) 256 ≤ sm (fun i => h i + (P - 1)) 256 := sm_le fun i _ => by
    show P * ((h i + (P - 1)) / P) ≤ h i + (P - 1)
    exact Nat.mul_div_le _ _
  rw [sm_mul, sm_add, sm_const, ← hT] at h1
  have h2 : T < 262144 * P := (Nat.div_lt_iff_lt_mul (by omega)).1 (by omega)
  have h3 : P * sm (scl h P) 256 < P * 262400 := by
    rw [Nat.mul_comm P 262400]
    omega
  have := Nat.lt_of_mul_lt_mul_left h3
  omega
theorem bs_usd {C : Nat → Nat} (S : Nat) : bs C S 1 = usd C S := bs_one
end
end Go.Proofs.YthkklojjpgjiiaaFmt
