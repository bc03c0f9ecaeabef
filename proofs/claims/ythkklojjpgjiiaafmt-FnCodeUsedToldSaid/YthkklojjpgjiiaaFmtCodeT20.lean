/-
  The depths of the tree of a code, plain. Conditions: those of each.
  huff0's buildCTable, plain: how picks stand in the nodes. Conditions: those of each.
-/
import Derived.Test.YthkklojjpgjiiaaFmtCodeT04
namespace Go.Proofs.YthkklojjpgjiiaaFmt

theorem sm_head (f : Nat → Nat) (n : Nat) : sm f (n + 1) = f 0 + sm (fun i => f (i + 1)) n := by
  induction n with
  | zero => simp [sm]
  | succ n ih => rw [sm, ih, sm]; omega
theorem sm_rev (f : Nat → Nat) (n : Nat) : sm (fun i => f (n - 1 - i)) n = sm f n := by
  induction n generalizing f with
  | zero => rfl
  | succ n ih =>
    rw [sm_head f n, ← ih (fun i => f (i + 1)), sm]
    rw [sm_congr (f := fun i => f (n + 1 - 1 - i)) (g := fun i => f (n - 1 - i + 1)) fun i hi => by show f _ = f _; rw [show n + 1 - 1 - i = n - 1 - i + 1 by omega]]
    rw [show n + 1 - 1 - n = 0 by omega]
    omega
theorem sm_zero {f : Nat → Nat} {n : Nat} (h : sm f n = 0) (i : Nat) (hi : i < n) : f i = 0 := by
  have := sm_point f hi
  omega
/-- depths of the inner nodes: the last one is the root -/
def DepOk (n : Nat) (pi d : Nat → Nat) : Prop := d (n - 2) = 0 ∧ ∀ j, j < n - 2 → d j = d (pi j) + 1
section
variable {cnt wt pl pi mx d : Nat → Nat} {n a b v : Nat} {P : Nat → Prop}
/-- the tree is made -/
structure TDone (cnt : Nat → Nat) (n : Nat) (wt pl pi mx : Nat → Nat) : Prop where
  pl1 : ∀ i, i < n → pl i ≤ n - 2
  plm : ∀ i j, i ≤ j → j < n → pl i ≤ pl j
  pl0 : pl 0 = 0
  pi1 : ∀ i, i < n - 2 → i < pi i ∧ pi i ≤ n - 2
  pim : ∀ i j, i ≤ j → j < n - 2 → pi i ≤ pi j
  sum : ∀ F : Nat → Nat, sm (fun i => F (pl i)) n + sm (fun i => F (pi i)) (n - 2) = sm (fun j => 2 * F j) (n - 1)
  rel : ∀ i, i < n - 2 → wt i ≤ mx (pi i) ∧ wt i + mx i ≤ wt (pi i)
  tot : wt (n - 2) = sm cnt n
theorem TI.done (h : TI cnt n a b (n - 1) 0 v 0 wt pl pi mx P) (hn : 2 ≤ n) (hb : b ≤ n - 2) : a = n ∧ b = n - 2 ∧ TDone cnt n wt pl pi mx := by
  have h1 := h.hab
  have h2 := h.han
  have ha : a = n := by omega
  have hbe : b = n - 2 := by omega
  subst ha
  subst hbe
  have hF := h.sum fun j => if j = a - 1 then 1 else 0
  rw [sm_congr (f := fun j => 2 * (if j = a - 1 then 1 else 0)) (g := fun _ => 0) fun i hi => by rw [if_neg (by omega)], sm_const] at hF
  have z1 : ∀ i, i < a → pl i ≤ a - 2 := fun i hi => by
    have h3 := sm_zero (f := fun i => if pl i = a - 1 then 1 else 0) (n := a) (by omega) i hi
    have h4 := h.pl1 i hi
    by_cases e : pl i = a - 1
    · simp only [e, if_true] at h3
      omega
    · omega
  have z2 : ∀ i, i < a - 2 → i < pi i ∧ pi i ≤ a - 2 := fun i hi => by
    have h3 := sm_zero (f := fun i => if pi i = a - 1 then 1 else 0) (n := a - 2) (by omega) i hi
    have h4 := h.pi1 i hi
    by_cases e : pi i = a - 1
    · simp only [e, if_true] at h3
      omega
    · omega
  refine ⟨rfl, rfl, z1, h.plm, ?_, z2, h.pim, fun F => ?_, fun i hi => h.rel i hi (by have := z2 i hi; omega), ?_⟩
  · have h5 := h.sum fun j => if j = 0 then 1 else 0
    rw [sm_congr (f := fun i => if pi i = 0 then 1 else 0) (g := fun _ => 0) fun i hi => by rw [if_neg (by have := z2 i hi; omega)], sm_const] at h5
    have h6 := sm_point (fun j => 2 * (if j = 0 then 1 else 0)) (p := 0) (n := a - 1) (by omega)
    simp only [if_true] at h6
    by_cases e : pl 0 = 0
    · exact e
    · exfalso
      rw [sm_congr (f := fun i => if pl i = 0 then 1 else 0) (g := fun _ => 0) fun i hi => by
        have := h.plm 0 i (by omega) hi
        rw [if_neg (by omega)], sm_const] at h5
      omega
  · have := h.sum F
    omega
  · have h7 := h.tot
    rw [sm_rev cnt a, show a - 1 = (a - 2) + 1 by omega, sm] at h7
    omega
variable (h : TDone cnt n wt pl pi mx) (hd : DepOk n pi d) (hn : 2 ≤ n)
include h hd hn
theorem dep_anti : ∀ m j j', n - 2 - j = m → j ≤ j' → j' ≤ n - 2 → d j' ≤ d j := by
  intro m
  induction m using Nat.strongRecOn with
  | _ m ih =>
    intro j j' hm hj hj'
    by_cases e : j' = n - 2
    · rw [e, hd.1]; exact Nat.zero_le _
    · have h1 := h.pi1 j (by omega)
      have h2 := h.pi1 j' (by omega)
      rw [hd.2 j (by omega), hd.2 j' (by omega)]
      have := ih (n - 2 - pi j) (by omega) (pi j) (pi j') rfl (h.pim j j' hj (by omega)) h2.2
      omega
/-- the lengths by position: the leaves were picked from the last one on -/
theorem dep_full : Full n (d 0 + 1) (fun p => d (pl (n - 1 - p)) + 1) ∧ d (pl (n - 1 - (n - 1))) + 1 = d 0 + 1 := by
  have anti := dep_anti h hd hn
  have le0 : ∀ j, j ≤ n - 2 → d j ≤ d 0 := fun j hj => anti _ 0 j rfl (by omega) hj
  refine ⟨⟨fun i j hij hj => ?_, fun i hi => ?_, ?_⟩, by rw [Nat.sub_self, h.pl0]⟩
  · have := anti _ (pl (n - 1 - j)) (pl (n - 1 - i)) rfl (h.plm _ _ (by omega) (by omega)) (h.pl1 _ (by omega))
    show d _ + 1 ≤ d _ + 1
    omega
  · have := le0 (pl (n - 1 - i)) (h.pl1 _ (by omega))
    show 1 ≤ d _ + 1 ∧ d _ + 1 ≤ _
    omega
  · rw [sm_rev (fun i => 2 ^ (d 0 + 1 - (d (pl i) + 1))) n]
    have hs := h.sum fun j => 2 ^ (d 0 - d j)
    have h1 : sm (fun i => 2 ^ (d 0 - d (pi i))) (n - 2) = sm (fun j => 2 * 2 ^ (d 0 - d j)) (n - 2) := sm_congr fun i hi => by
      have h2 := hd.2 i hi
      have h3 := le0 i (by omega)
      show 2 ^ (d 0 - d (pi i)) = 2 * 2 ^ (d 0 - d i)
      rw [show d 0 - d (pi i) = (d 0 - d i) + 1 by omega, Nat.pow_succ]
      omega
    rw [h1, show n - 1 = (n - 2) + 1 by omega, sm, hd.1, Nat.sub_zero] at hs
    rw [sm_congr (g := fun i => 2 ^ (d 0 - d (pl i))) fun i hi => by rw [show d 0 + 1 - (d (pl i) + 1) = d 0 - d (pl i) by omega], Nat.pow_succ]
    omega
/-- a node two steps up weighs twice as much -/
theorem dep_weight : ∀ m j, n - 2 - j = m → j ≤ n - 2 → 2 ^ (d j / 2) * wt j ≤ wt (n - 2) := by
  intro m
  induction m using Nat.strongRecOn with
  | _ m ih =>
    intro j hm hj
    by_cases e : j = n - 2
    · rw [e, hd.1]; simp
    · have h1 := h.pi1 j (by omega)
      have hr := h.rel j (by omega)
      by_cases e2 : pi j = n - 2
      · rw [hd.2 j (by omega), e2, hd.1]
        rw [e2] at hr
        simp
        omega
      · have h2 := h.pi1 (pi j) (by omega)
        have hr2 := h.rel (pi j) (by omega)
        have hi := ih (n - 2 - pi (pi j)) (by omega) (pi (pi j)) rfl h2.2
        rw [hd.2 j (by omega), hd.2 (pi j) (by omega), show (d (pi (pi j)) + 1 + 1) / 2 = d (pi (pi j)) / 2 + 1 by omega, Nat.pow_succ, Nat.mul_assoc]
        exact Nat.le_trans (Nat.mul_le_mul_left _ (by omega)) hi
theorem dep_le (hw : 1 ≤ wt 0) (hW : sm cnt n < 2 ^ 24) : d 0 < 48 := by
  have h1 := dep_weight h hd hn _ 0 rfl (by omega)
  rw [h.tot] at h1
  have h2 : 2 ^ (d 0 / 2) * 1 ≤ 2 ^ (d 0 / 2) * wt 0 := Nat.mul_le_mul_left _ hw
  have h3 : 2 ^ (d 0 / 2) < 2 ^ 24 := by omega
  have := (Nat.pow_lt_pow_iff_right (a := 2) (by omega)).1 h3
  omega
end
end Go.Proofs.YthkklojjpgjiiaaFmt
namespace Go.Proofs.YthkklojjpgjiiaaFmt

/-- counts in the nodes: n leaves, k inner nodes, barriers -/
structure CtF (cnt : Nat → Nat) (n S k : Nat) (wt ct : Nat → Nat) : Prop where
  lf : ∀ p, p < n → ct (p + 1) = cnt p
  inn : ∀ j, j < k → ct (S + j + 1) = wt j
  bar : ∀ j, k ≤ j → j + 2 ≤ n → ct (S + j + 1) = 1073741824
  top : ct 0 = 2147483648
/-- parents in the nodes -/
structure PaF (n S a b : Nat) (pl pi pa : Nat → Nat) : Prop where
  pal : ∀ i, i < a → pa (n - 1 - i + 1) = S + pl i
  pai : ∀ j, j < b → pa (S + j + 1) = S + pi j
section
variable {cnt wt pl pi mx ct pa : Nat → Nat} {n S a b k q v s : Nat} {P : Nat → Prop}
theorem sm_mono_n (f : Nat → Nat) {i j : Nat} (h : i ≤ j) : sm f i ≤ sm f j := by
  induction j with
  | zero => rw [show i = 0 by omega]; exact Nat.le_refl _
  | succ j ih =>
    by_cases e : i = j + 1
    · rw [e]; exact Nat.le_refl _
    · rw [sm]
      have := ih (by omega)
      omega
theorem TI.wt_le (h : TI cnt n a b k q v s wt pl pi mx P) (hb : b < k) (hc : ∀ p, cnt p < 65536) (hn : n ≤ 256) : wt b < 16777216 := by
  have h1 := h.tot
  have h2 := sm_mono_n wt (show b + 1 ≤ k by omega)
  rw [sm] at h2
  have h3 := sm_le (f := fun i => cnt (n - 1 - i)) (g := fun _ => 65535) (n := a) fun i _ => by have := hc (n - 1 - i); show cnt (n - 1 - i) ≤ 65535; omega
  rw [sm_const] at h3
  have h4 := h.han
  have h5 : a * 65535 ≤ 256 * 65535 := Nat.mul_le_mul_right _ (by omega)
  omega
/-- the next pick: a leaf, or an inner node -/
theorem TI.cond (h : TI cnt n a b k q v s wt pl pi mx P) (hq : q < 2) (hk : k + 2 ≤ n) (hC : CtF cnt n S k wt ct) (hm : ∀ i j, i ≤ j → j < n → cnt j ≤ cnt i) (hc : ∀ p, cnt p < 65536) (hn : n ≤ 256) :
    (ct (n - a) < ct (S + b + 1) → a < n ∧ ct (n - a) = cnt (n - 1 - a) ∧ v ≤ cnt (n - 1 - a) ∧ TI cnt n (a + 1) b k (q + 1) (cnt (n - 1 - a)) (s + cnt (n - 1 - a)) wt (updN pl a k) pi mx P) ∧
    (¬ ct (n - a) < ct (S + b + 1) → b < k ∧ ct (S + b + 1) = wt b ∧ v ≤ wt b ∧ TI cnt n a (b + 1) k (q + 1) (wt b) (s + wt b) wt pl (updN pi b k) mx (fun z => P z ∨ z = wt b)) := by
  have hab := h.hab
  have han := h.han
  have hbk := h.hbk
  have hR : ct (S + b + 1) ≤ 1073741824 := by
    by_cases e : b < k
    · rw [hC.inn b e]
      have := h.wt_le e hc hn
      omega
    · rw [hC.bar b (by omega) (by omega)]
      exact Nat.le_refl _
  refine ⟨fun h1 => ?_, fun h1 => ?_⟩
  · have ha : a < n := by
      by_cases e : a < n
      · exact e
      · rw [show n - a = 0 by omega, hC.top] at h1
        omega
    have he : ct (n - a) = cnt (n - 1 - a) := by
      rw [show n - a = n - 1 - a + 1 by omega]
      exact hC.lf _ (by omega)
    refine ⟨ha, he, h.hL ha, h.pickL hm ha fun hb => ?_⟩
    rw [he, hC.inn b hb] at h1
    omega
  · have hb : b < k := by
      by_cases e : b < k
      · exact e
      · exfalso
        have hbk2 : b = k := by omega
        have ha : a < n := by omega
        rw [hC.bar b (by omega) (by omega), show n - a = n - 1 - a + 1 by omega, hC.lf _ (by omega)] at h1
        have := hc (n - 1 - a)
        omega
    refine ⟨hb, hC.inn b hb, h.hR hb, h.pickR hb fun ha => ?_⟩
    rw [hC.inn b hb, show n - a = n - 1 - a + 1 by omega, hC.lf _ (by omega)] at h1
    omega
theorem PaF.left (h : PaF n S a b pl pi pa) (ha : a < n) (hn : n ≤ S) (k : Nat) : PaF n S (a + 1) b (updN pl a k) pi (updN pa (n - 1 - a + 1) (S + k)) := by
  refine ⟨fun i hi => ?_, fun j hj => ?_⟩
  · by_cases e : i = a
    · rw [e, updN_same, updN_same]
    · rw [updN_ne _ _ _ _ (by omega), updN_ne _ _ _ _ e]
      exact h.pal i (by omega)
  · rw [updN_ne _ _ _ _ (by omega)]
    exact h.pai j hj
theorem PaF.right (h : PaF n S a b pl pi pa) (ha : a ≤ n) (hn : n ≤ S) (k : Nat) : PaF n S a (b + 1) pl (updN pi b k) (updN pa (S + b + 1) (S + k)) := by
  refine ⟨fun i hi => ?_, fun j hj => ?_⟩
  · rw [updN_ne _ _ _ _ (by omega)]
    exact h.pal i hi
  · by_cases e : j = b
    · rw [e, updN_same, updN_same]
    · rw [updN_ne _ _ _ _ (by omega), updN_ne _ _ _ _ e]
      exact h.pai j (by omega)
theorem CtF.make (h : CtF cnt n S k wt ct) (hn : n ≤ S) (x : Nat) : CtF cnt n S (k + 1) (updN wt k x) (updN ct (1 + (S + k)) x) := by
  refine ⟨fun p hp => ?_, fun j hj => ?_, fun j h1 h2 => ?_, ?_⟩
  · rw [updN_ne _ _ _ _ (by omega)]; exact h.lf p hp
  · by_cases e : j = k
    · rw [e, updN_same, show S + k + 1 = 1 + (S + k) by omega, updN_same]
    · rw [updN_ne _ _ _ _ (by omega), updN_ne _ _ _ _ e]
      exact h.inn j (by omega)
  · rw [updN_ne _ _ _ _ (by omega)]
    exact h.bar j (by omega) h2
  · rw [updN_ne _ _ _ _ (by omega)]
    exact h.top
/-- the depths in the nodes: from inner node j on -/
structure BtI (n S j : Nat) (pi bt : Nat → Nat) : Prop where
  rt : bt (S + (n - 2) + 1) = 0
  st : ∀ i, j ≤ i → i < n - 2 → bt (S + i + 1) = bt (S + pi i + 1) + 1
  le : ∀ i, j ≤ i → i ≤ n - 2 → bt (S + i + 1) + i ≤ n - 2
theorem BtI.next {bt : Nat → Nat} {j : Nat} (h : BtI n S (j + 1) pi bt) (hj : j < n - 2) (hpi : ∀ i, i < n - 2 → i < pi i ∧ pi i ≤ n - 2) : BtI n S j pi (updN bt (S + j + 1) (bt (S + pi j + 1) + 1)) := by
  have hp := hpi j hj
  refine ⟨?_, fun i h1 h2 => ?_, fun i h1 h2 => ?_⟩
  · rw [updN_ne _ _ _ _ (by omega)]; exact h.rt
  · have hpi1 := hpi i h2
    by_cases e : i = j
    · rw [e, updN_same, updN_ne _ _ _ _ (by omega)]
    · rw [updN_ne _ _ _ _ (by omega), updN_ne _ _ _ _ (by omega)]
      exact h.st i (by omega) h2
  · by_cases e : i = j
    · rw [e, updN_same]
      have := h.le (pi j) (by omega) hp.2
      omega
    · rw [updN_ne _ _ _ _ (by omega)]
      exact h.le i (by omega) h2
end
end Go.Proofs.YthkklojjpgjiiaaFmt
