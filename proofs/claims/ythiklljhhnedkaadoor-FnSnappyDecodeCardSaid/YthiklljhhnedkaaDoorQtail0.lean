/-
  A region that draws its order, whose first operation is a bare move that the last ones alone wait for, whose others only read but for the last ones: walked once, in the order of the text. Plain laws on the walk; conditions: those of each.
-/
import Derived.Test.YthiklljhhnedkaaDoorQtail
namespace Go.Proofs.YthiklljhhnedkaaDoor
open Go.RowKit

section
variable {P : Program} {ops : Array Oper} {md : Region.Mode} {w : World}

/-- what the walk through the head keeps -/
structure HI (md : Region.Mode) (ops : Array Oper) (n : Nat) (listed : Array Bool) : Prop where
  inv : HeadInv md ops n listed
  zero : listed.getD 0 true = true
theorem HI.put {n i : Nat} {listed : Array Bool} (h : HI md ops n listed) (hi : i ∈ Region.ready md ops listed) (hin : i < n) : HI md ops n (listed.setIfInBounds i true) := by
  refine ⟨h.inv.set hi hin, ?_⟩
  by_cases e : i = 0
  · subst e
    have hz := h.zero
    have := (mem_ready.1 hi).1
    rw [this] at hz
    cases hz
  · rw [getD_set_ne true e]; exact h.zero

/-- each operation of the head but the first one is waited for up to the tail's first one -/
def sink0 (md : Region.Mode) (ops : Array Oper) (n : Nat) : Bool := (List.range n).all fun i => i == 0 || (List.range (n + 1)).any fun j => decide (i < j) && Region.waitsFor md ops j i

theorem tail_late {n : Nat} (hs : sink0 md ops n = true) (hc : Region.chainB md ops n = true) (hn : n < ops.size) {listed : Array Bool} (h : HI md ops n listed) :
    ∀ (m i : Nat), n - i ≤ m → i < n → listed.getD i true = false → ∀ t, n ≤ t → t ∉ Region.ready md ops listed
  | 0, i, hm, hi, _, _, _ => by omega
  | m + 1, i, hm, hi, hu, t, ht => by
    intro hr
    obtain ⟨hut, ot, hot, hall⟩ := mem_ready.1 hr
    have hts : t < ops.size := (Array.getElem?_eq_some_iff.1 hot).1
    rcases Nat.lt_or_ge n t with hlt | hge
    · have h1 := List.all_eq_true.1 hc t (List.mem_range.2 hts)
      simp only [Bool.or_eq_true, decide_eq_true_eq] at h1
      rcases h1 with h1 | h1
      · omega
      · obtain ⟨o', ho', e, he, hb, hon⟩ := Region.waitsFor_spec h1
        obtain rfl := Option.some.inj (ho'.symm.trans hot)
        have h2 := hall e he hb
        rw [hon, getD_both (h.inv.tail (t - 1) (by omega) (by omega))] at h2
        cases h2
    · obtain rfl : t = n := by omega
      have h0 : i ≠ 0 := fun e => by subst e; rw [h.zero] at hu; cases hu
      have h1 := List.all_eq_true.1 hs i (List.mem_range.2 hi)
      simp only [Bool.or_eq_true, beq_iff_eq, h0, false_or] at h1
      obtain ⟨j, hj, hj2⟩ := List.any_eq_true.1 h1
      simp only [Bool.and_eq_true, decide_eq_true_eq] at hj2
      have hjt : j ≤ t := by have := List.mem_range.1 hj; omega
      obtain ⟨oj, hoj, e, he, hb, hon⟩ := Region.waitsFor_spec hj2.2
      rcases Nat.lt_or_ge j t with hlt | hge'
      · cases hl : listed.getD j false with
        | true =>
          have h2 := h.inv.closed j oj hoj hl e he hb
          rw [hon, getD_both hu] at h2
          cases h2
        | false => exact tail_late hs hc hn h m j (by omega) hlt (getD_in (by rw [h.inv.size]; omega) hl) t (Nat.le_refl _) hr
      · obtain rfl : j = t := by omega
        obtain rfl := Option.some.inj (hoj.symm.trans hot)
        have h2 := hall e he hb
        rw [hon, getD_both hu] at h2
        cases h2

/-- an operation of the head that is ready may be taken first -/
theorem head_first {n i : Nat} {oi : Oper} {v : Value} {L : Array Bool → Act → Prop} (hi : ops[i]? = some oi) (hsel : ∀ (j : Nat) (o : Oper) cs b, ops[j]? = some o → o.op ≠ .select cs b)
    (hs : sink0 md ops n = true) (hc : Region.chainB md ops n = true) (hn : n < ops.size) (hin : i < n) (hdone : ∀ listed a, L listed a → ∀ j ∈ Region.ready md ops listed, n ≤ j) :
    ∀ (f : Nat) (listed : Array Bool) (a : Act), HI md ops n listed →
      (∀ j oj, ops[j]? = some oj → j ≠ i → listed.getD j true = false → (∀ e ∈ oj.after, Region.binds md e = true → e.on ≠ i) → oi.apart ops oj = true) →
      i ∈ Region.ready md ops listed → YieldsAt P ops w oi v a → wpAnyL P md ops w n L f (listed.setIfInBounds i true) (a.put oi.dst v) → wpAnyL P md ops w n L (f + 1) listed a
  | f, listed, a, h, hfree, hr, hy, H => by
    have hu := (mem_ready.1 hr).1
    have early : ∀ j ∈ Region.ready md ops listed, j < n := fun j hj => by
      rcases Nat.lt_or_ge j n with hlt | hge
      · exact hlt
      · exact absurd hj (tail_late hs hc hn h _ i (Nat.le_refl _) hin hu j hge)
    refine ⟨(fun e => by rw [e] at hr; exact absurd hr (by simp)), fun j hj => ⟨early j hj, ?_⟩⟩
    by_cases hji : j = i
    · subst hji; exact hy.stOp hi H
    · cases f with
      | zero =>
        have := hdone _ _ H j (ready_mono hj hji)
        have := early j hj
        omega
      | succ f =>
        have h1 := (H.2 j (ready_mono hj hji)).2
        obtain ⟨hju, oj, hoj, hall⟩ := mem_ready.1 hj
        have hnot : ∀ e ∈ oj.after, Region.binds md e = true → e.on ≠ i := fun e he hb heq => by
          have h2 := hall e he hb
          rw [heq, getD_both hu] at h2
          cases h2
        refine stOp_mono (fun a' h3 => head_first hi hsel hs hc hn hin hdone f (listed.setIfInBounds j true) a' (h.put hj (early j hj)) (fun k ok hk hki huk hno => ?_) (ready_mono hr (Ne.symm hji)) h3.1 ?_)
          (stOp_put hoj (hfree j oj hoj hji hju hnot) (fun cs b => hsel i oi cs b hi) (fun cs b => hsel j oj cs b hoj) hy h1)
        · refine hfree k ok hk hki ?_ hno
          by_cases hjk : j = k
          · subst hjk; exact hju
          · rwa [getD_set_ne true hjk] at huk
        · rw [Array.setIfInBounds_comm _ _ hji]
          exact h3.2

theorem head_lex {n g : Nat} {Lq : Act → Prop} (hsel : Region.noSelect ops = true) (hs : sink0 md ops n = true) (hc : Region.chainB md ops n = true) (hn : n < ops.size) :
    ∀ (l : List Oper) (k : Nat) (listed : Array Bool) (a : Act), (∀ j, j < l.length → l[j]? = ops[k + j]?) → k + l.length = n → HI md ops n listed → Region.lexHead md ops g l.length k listed = true → wpStill P ops w Lq l a →
      wpAnyL P md ops w n (fun listed' a' => Region.seqB md ops g n listed' = true ∧ Lq a') l.length listed a
  | [], k, listed, a, _, hk, _, hB, h => by
    obtain rfl : k = n := by simpa using hk
    exact ⟨hB, h⟩
  | o :: l, k, listed, a, hl, hk, inv, hB, h => by
    have h0 : ops[k]? = some o := by simpa using (hl 0 (by simp)).symm
    simp only [List.length_cons] at hk
    simp only [List.length_cons, Region.lexHead, Bool.and_eq_true] at hB
    have hr : k ∈ Region.ready md ops listed := by simpa using hB.1.1
    obtain ⟨v, hy, hK⟩ := yieldsAt_of_stOp h0 (show stOp P ops w k (wpStill P ops w Lq l) a by unfold stOp; simp only [h0]; exact h)
    exact head_first h0 (Region.noSelect_spec hsel) hs hc hn (by omega) (fun listed' a' hL => seqB_ready hL.1) l.length listed a inv (Region.free_spec h0 hB.1.2) hr hy
      (head_lex hsel hs hc hn l (k + 1) _ _ (fun j hj => by have := hl (j + 1) (by simp; omega); simpa [Nat.add_assoc, Nat.add_comm 1 j] using this) (by omega) (inv.put hr (by omega)) hB.2 hK)

/-- what is asked of the region: by evaluation -/
def tail0B (ops : Array Oper) (n : Nat) : Bool :=
  Region.noSelect ops && decide (0 < n) && decide (n < ops.size) && sink0 .any ops n && Region.chainB .any ops n && Region.free .any ops (Array.replicate ops.size false) 0 && (Region.ready .any ops (Array.replicate ops.size false)).contains 0 &&
    Region.lexHead .any ops (ops.size - n) (n - 1) 1 ((Array.replicate ops.size false).setIfInBounds 0 true)

theorem wp_region_tail0 {id : Nat} {Q : Exit → Act → World → Prop} {a : Act} {o0 : Oper} {l : List Oper} (n : Nat) (hm : P.follows .mixedOrders = true) (hB : tail0B (o0 :: l).toArray (n + 1) = true) (x : Operand) (ho : o0.op = .move x) (hg : o0.guard = none)
    (hQ' : ∀ (v : Value) c a w, Q (.panic c) (a.put o0.dst v) w → Q (.panic c) a w)
    (h : wpQuiet P (o0 :: l).toArray (fun w' => w' = w.drewN 1) (fun a' => wpList P (o0 :: l).toArray Q (l.drop n) a' (w.drewN 1)) (l.take n) (a.put o0.dst (a.eval x))) : (Code.region id (o0 :: l).toArray true).wp P Q a w := by
  simp only [tail0B, Bool.and_eq_true, decide_eq_true_eq] at hB
  obtain ⟨⟨⟨⟨⟨⟨⟨hsel, h0n⟩, hn⟩, hs⟩, hc⟩, hf⟩, hr⟩, hlex⟩ := hB
  have hsz : (o0 :: l).toArray.size = l.length + 1 := by simp
  have hnl : n < l.length := by rw [hsz] at hn; omega
  have hi0 : (o0 :: l).toArray[0]? = some o0 := by simp
  refine wp_region_any hm ?_
  rw [hsz] at hf hr hlex ⊢
  have hrun : ∀ w', (execOp a.eval o0).run P w' = .ok (.value (a.eval x)) w' := fun w' => by unfold execOp; rw [ho]; rfl
  refine wpAny_take (i := 0) (oi := o0) (v := a.eval x) (fuel := l.length) hi0 hsel hf hr (hQ' (a.eval x)) (.inl ⟨by simp [Region.wanted, hg], hrun⟩) ?_
  have hst := still_of_quiet _ _ h
  have htl : (l.take n).length = n := by simp; omega
  have hz : (Array.replicate (l.length + 1) false).setIfInBounds 0 true = (Array.replicate (l.length + 1) false).setIfInBounds 0 true := rfl
  have inv0 : HI .any (o0 :: l).toArray (n + 1) ((Array.replicate (l.length + 1) false).setIfInBounds 0 true) := by
    have hr' : (0 : Nat) ∈ Region.ready .any (o0 :: l).toArray (Array.replicate (l.length + 1) false) := by simpa using hr
    have base : HeadInv .any (o0 :: l).toArray (n + 1) (Array.replicate (l.length + 1) false) :=
      ⟨by simp, fun j oj _ hl => (by rw [getD_replicate_false] at hl; cases hl), fun t _ ht => getD_in (by rw [hsz] at ht; simpa using ht) (getD_replicate_false _ _)⟩
    exact ⟨base.set hr' (by omega), by simp⟩
  have H := head_lex (P := P) (w := w.drewN 1) (g := l.length + 1 - (n + 1)) hsel hs hc hn (l.take n) 1 _ (a.put o0.dst (a.eval x)) (fun j hj => by
    have hj' : j < n := by rw [htl] at hj; exact hj
    rw [List.getElem?_take_of_lt hj']
    simp [Nat.add_comm 1 j]) (by rw [htl]; omega) inv0 (by rw [htl]; exact hlex) hst
  have hdl : (l.drop n).length = l.length + 1 - (n + 1) := by simp
  have := wpAny_of_head (Q' := Q) (g := l.length + 1 - (n + 1)) (fun listed a' hL => by
    have := wpAny_of_seq (md := .any) (Q' := Q) (l.drop n) (n + 1) listed a' (w.drewN 1) (fun j => by simp [List.getElem?_drop]; rw [show n + 1 + j = n + j + 1 by omega]; simp) (by rw [hdl]; exact hL.1) hL.2
    rwa [hdl] at this) _ _ _ H
  rw [htl, show n + (l.length + 1 - (n + 1)) = l.length by omega] at this
  exact this
end
end Go.Proofs.YthiklljhhnedkaaDoor
