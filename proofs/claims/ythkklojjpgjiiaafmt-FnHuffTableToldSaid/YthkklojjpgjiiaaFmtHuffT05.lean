/-
  DERIVED: THE SHELF's CONTRACTS AT THIS DUMP, IN PLAIN WORDS (tools/lay-plain.mjs out of 'TryfShelf.lean', which tools/lay-shelf.mjs wrote): THE SAME DECLARATIONS UNDER THE SAME NAMES: 'import', 'namespace', 'open', 'def', 'theorem' AND NOTHING ELSE: no command of the shelf's: FOR A HAND-IN. Each laying: the table of numbers ('.._ren') and one theorem, a field a fact of the dump's own or the kernel's comparison; each contract: ONE APPLICATION.
  A region that draws its order, whose operations only read but for the last ones: walked once, in the order of the text. Plain laws on the walk; conditions: those of each.
  A region that draws its order, whose first operation is a bare move that the last ones alone wait for, whose others only read but for the last ones: walked once, in the order of the text. Plain laws on the walk; conditions: those of each.
  Slices of bytes that the call itself made: what they hold, what an append and a store do to them. Plain lemmas; conditions: those of each.
-/
import Derived.Shelf.Small.Bits
import Derived.Ground.MnProg
import Derived.Shelf.Bin.LEUint64
import Derived.Shelf.Bin.ReadersZ
import Derived.Test.YthkklojjpgjiiaaFmtProg
import Derived.StillTail
import Derived.BigQuiet
import Derived.WalkKit
import Derived.Test.YthkklojjpgjiiaaFmtRows
import Derived.Test.YthkklojjpgjiiaaFmtHuffT01
import Derived.Maps.AppendAt
import Derived.Deep.AppendLies
import Derived.Laws.OwnMore
import Derived.Laws.IdiomCopy
import Derived.Lib.UnsafeStr
namespace Go.Proofs
open Go.Shelf
def Tryf.lays128_ren : Go.Shelf.Ren := ⟨fun | 128 => 47 | n => n, fun | 51 => 39 | 3 => 3 | 4 => 4 | 46 => 75 | 5 => 5 | 9 => 9 | n => n, fun | n => n⟩
theorem Tryf.lays128 : Go.Proofs.Lays.n128 Tryf.prog Tryf.lays128_ren := {
  mixed := by kernel_rfl
  f128 := Tryf.func47.trans (congrArg some (by kernel_rfl))
  t3 := Tryf.underlying3
  a3 := Tryf.isAgg3
  z3 := Tryf.sizeOf3
  v3 := Tryf.zeroValue3
  t4 := Tryf.underlying4
  a4 := Tryf.isAgg4
  z4 := Tryf.sizeOf4
  v4 := Tryf.zeroValue4
  t5 := Tryf.underlying5
  a5 := Tryf.isAgg5
  z5 := Tryf.sizeOf5
  v5 := Tryf.zeroValue5
  t9 := Tryf.underlying9
  a9 := Tryf.isAgg9
  z9 := Tryf.sizeOf9
  v9 := Tryf.zeroValue9
  t46 := Tryf.underlying75
  a46 := Tryf.isAgg75
  z46 := Tryf.sizeOf75
  v46 := Tryf.zeroValue75
  t51 := Tryf.underlying39
  a51 := Tryf.isAgg39
  z51 := Tryf.sizeOf39
  v51 := Tryf.zeroValue39 }
/-- bits.Len32: "Len32 returns the minimum number of bits required to represent x; the result is 0 for x == 0.": IT RETURNS 'Lib.bitLen x'; the world is as it was. ('h0', 'h1': x is a uint32.) (LAID: no walk: one application.) -/
theorem Tryf.bits_Len32 (x : Int) (w : World) (h0 : 0 ≤ x) (h1 : x ≤ 4294967295) :
    Calls Tryf.prog 47 #[.int .u32 x] w fun e w' => e = .returned (.int .i64 (Lib.bitLen x.toNat)) ∧ w' = w := Any.bits_Len32 Tryf.lays128 x w h0 h1
def Tryf.laysBin33_ren : Go.Shelf.Ren := ⟨fun | 33 => 77 | n => n, fun | 25 => 172 | 22 => 28 | 33 => 88 | 0 => 0 | 5 => 5 | 45 => 75 | n => n, fun | n => n⟩
theorem Tryf.laysBin33 : Go.Proofs.LaysBin.n33 Tryf.prog Tryf.laysBin33_ren := {
  mixed := by kernel_rfl
  f33 := Tryf.func77.trans (congrArg some (by kernel_rfl))
  t0 := Tryf.underlying0
  a0 := Tryf.isAgg0
  z0 := Tryf.sizeOf0
  v0 := Tryf.zeroValue0
  i0 := by kernel_rfl
  t5 := Tryf.underlying5
  a5 := Tryf.isAgg5
  z5 := Tryf.sizeOf5
  v5 := Tryf.zeroValue5
  i5 := by kernel_rfl
  t22 := Tryf.underlying28
  a22 := Tryf.isAgg28
  z22 := Tryf.sizeOf28
  v22 := Tryf.zeroValue28
  i22 := by kernel_rfl
  t25 := Tryf.underlying172
  a25 := Tryf.isAgg172
  z25 := Tryf.sizeOf172
  v25 := Tryf.zeroValue172
  i25 := by kernel_rfl
  t33 := Tryf.underlying88
  a33 := Tryf.isAgg88
  z33 := Tryf.sizeOf88
  v33 := Tryf.zeroValue88
  i33 := by kernel_rfl
  t45 := Tryf.underlying75
  a45 := Tryf.isAgg75
  z45 := Tryf.sizeOf75
  v45 := Tryf.zeroValue75
  i45 := by kernel_rfl }
open Go.RowKit in
/-- binary.LittleEndian.Uint64: "Uint64 returns the uint64 representation of b[0:8].": THE NUMBER THAT THE FIRST 8 BYTES SPELL, the least byte first ('Lib.leNat'). Of what was there nothing has turned (the receiver, an empty struct, is laid in a new block without cells; the statement's order is drawn). (LAID: no walk: one application.) -/
theorem Tryf.binary_LE_Uint64 (g o n c : Nat) (b0 b1 b2 b3 b4 b5 b6 b7 : UInt8) (w : World) (hn : 8 ≤ n) (c0 : w.cell? ⟨g, o, none⟩ = some (.int .u8 b0.toNat)) (c1 : w.cell? ⟨g, o + 1, none⟩ = some (.int .u8 b1.toNat)) (c2 : w.cell? ⟨g, o + 2, none⟩ = some (.int .u8 b2.toNat)) (c3 : w.cell? ⟨g, o + 3, none⟩ = some (.int .u8 b3.toNat)) (c4 : w.cell? ⟨g, o + 4, none⟩ = some (.int .u8 b4.toNat)) (c5 : w.cell? ⟨g, o + 5, none⟩ = some (.int .u8 b5.toNat)) (c6 : w.cell? ⟨g, o + 6, none⟩ = some (.int .u8 b6.toNat)) (c7 : w.cell? ⟨g, o + 7, none⟩ = some (.int .u8 b7.toNat)) :
    Calls Tryf.prog 77 #[.agg #[], .slice (some ⟨g, o, none⟩) n c] w fun e w' => e = .returned (.int .u64 (Lib.leNat [b0, b1, b2, b3, b4, b5, b6, b7])) ∧ Below w.heap.size w w' := Any.binary_LE_Uint64 Tryf.laysBin33 g o n c b0 b1 b2 b3 b4 b5 b6 b7 w hn c0 c1 c2 c3 c4 c5 c6 c7
open Go.RowKit in
/-- binary.LittleEndian.Uint64, ITS PREMISES 'open_ints'' CONCLUSION TO THE LETTER: a slice at WHATEVER address a, the numbers zs that its cells hold: THE NUMBER THAT THE FIRST 8 SPELL ('Lib.leZ'). (LAID: no walk: one application.) -/
theorem Tryf.binary_LE_Uint64_z (a : Addr) (n c : Nat) (zs : List Int) (w : World) (hn : 8 ≤ n) (hl : 8 ≤ zs.length) (hcell : ∀ i, i < zs.length → w.cell? (a.add i) = some (.int .u8 (zs.getD i 0))) (hw : ∀ z ∈ zs, (Lit.int .u8 z).wf = true) :
    Calls Tryf.prog 77 #[.agg #[], .slice (some a) n c] w fun e w' => e = .returned (.int .u64 (Lib.leZ (zs.take 8))) ∧ Below w.heap.size w w' := Any.binary_LE_Uint64_z Tryf.laysBin33 a n c zs w hn hl hcell hw
end Go.Proofs
namespace Go.Proofs.YthkklojjpgjiiaaFmt
open Go.RowKit

section
variable {P : Program} {ops : Array Oper} {w : World}
theorem still_of_quiet {Q : Act → Prop} : ∀ (l : List Oper) (a : Act), wpQuiet P ops (fun w' => w' = w) Q l a → wpStill P ops w Q l a
  | [], _, h => h
  | o :: rest, a, h => by
    unfold wpQuiet at h
    unfold wpStill
    split
    · rename_i hw
      rw [if_pos hw] at h
      obtain ⟨v, hv, hn⟩ := h
      have hv := hv w rfl
      unfold Oper.quietAt at hv
      unfold Oper.still
      generalize (execOp a.eval o).run P w = r at hv
      cases r with
      | ok n w' =>
        cases n <;> simp only [Oper.quietUpon] at hv <;> simp only [Oper.stillUpon]
        case value u => obtain ⟨e, hu⟩ := hv; rw [← hu] at hn; exact ⟨e, still_of_quiet rest _ hn⟩
        case skip => obtain ⟨e, hu⟩ := hv; rw [hu] at hn; exact ⟨e, still_of_quiet rest _ hn⟩
        case enter f args => obtain ⟨e, hc⟩ := hv; exact ⟨e, v, hc, still_of_quiet rest _ hn⟩
      | halt x w' => simp only [Oper.quietUpon] at hv
    · rename_i hw
      rw [if_neg hw] at h
      exact still_of_quiet rest _ h

theorem wp_region_quiet_tail {id : Nat} {Q : Exit → Act → World → Prop} {a : Act} {l : List Oper} (n : Nat) (hm : P.follows .mixedOrders = true) (hB : Region.lexTailB .any l.toArray n = true)
    (h : wpQuiet P l.toArray (fun w' => w' = w.drewN 1) (fun a' => wpList P l.toArray Q (l.drop n) a' (w.drewN 1)) (l.take n) a) : (Code.region id l.toArray true).wp P Q a w :=
  wp_region_still_tail n hm hB (still_of_quiet _ _ h)
end
end Go.Proofs.YthkklojjpgjiiaaFmt
namespace Go.Proofs.YthkklojjpgjiiaaFmt
open Go.RowKit

section
variable {P : Program} {ops : Array Oper} {md : Region.Mode} {w : World}

/-- what the walk through the head keeps -/
structure HI (md : Region.Mode) (ops : Array Oper) (n : Nat) (listed : Array Bool) : Prop where
  inv : HeadInv md ops n listed
  zero : listed.getD 0 true = true
theorem HI.put {n i : Nat} {listed : Array Bool} (h : HI md ops n listed) (hi : i ∈ Region.ready md ops listed) (hin : i < n) : HI md ops n (listed.setIfInBounds i true) := by
  refine ⟨h.inv.set hi hin, ?_⟩
  by_cases e : i = 0
  · subst e
    have hz := h.zero
    have := (mem_ready.1 hi).1
    rw [this] at hz
    cases hz
  · rw [getD_set_ne true e]; exact h.zero

/-- each operation of the head but the first one is waited for up to the tail's first one -/
def sink0 (md : Region.Mode) (ops : Array Oper) (n : Nat) : Bool := (List.range n).all fun i => i == 0 || (List.range (n + 1)).any fun j => decide (i < j) && Region.waitsFor md ops j i

theorem tail_late {n : Nat} (hs : sink0 md ops n = true) (hc : Region.chainB md ops n = true) (hn : n < ops.size) {listed : Array Bool} (h : HI md ops n listed) :
    ∀ (m i : Nat), n - i ≤ m → i < n → listed.getD i true = false → ∀ t, n ≤ t → t ∉ Region.ready md ops listed
  | 0, i, hm, hi, _, _, _ => by omega
  | m + 1, i, hm, hi, hu, t, ht => by
    intro hr
    obtain ⟨hut, ot, hot, hall⟩ := mem_ready.1 hr
    have hts : t < ops.size := (Array.getElem?_eq_some_iff.1 hot).1
    rcases Nat.lt_or_ge n t with hlt | hge
    · have h1 := List.all_eq_true.1 hc t (List.mem_range.2 hts)
      simp only [Bool.or_eq_true, decide_eq_true_eq] at h1
      rcases h1 with h1 | h1
      · omega
      · obtain ⟨o', ho', e, he, hb, hon⟩ := Region.waitsFor_spec h1
        obtain rfl := Option.some.inj (ho'.symm.trans hot)
        have h2 := hall e he hb
        rw [hon, getD_both (h.inv.tail (t - 1) (by omega) (by omega))] at h2
        cases h2
    · obtain rfl : t = n := by omega
      have h0 : i ≠ 0 := fun e => by subst e; rw [h.zero] at hu; cases hu
      have h1 := List.all_eq_true.1 hs i (List.mem_range.2 hi)
      simp only [Bool.or_eq_true, beq_iff_eq, h0, false_or] at h1
      obtain ⟨j, hj, hj2⟩ := List.any_eq_true.1 h1
      simp only [Bool.and_eq_true, decide_eq_true_eq] at hj2
      have hjt : j ≤ t := by have := List.mem_range.1 hj; omega
      obtain ⟨oj, hoj, e, he, hb, hon⟩ := Region.waitsFor_spec hj2.2
      rcases Nat.lt_or_ge j t with hlt | hge'
      · cases hl : listed.getD j false with
        | true =>
          have h2 := h.inv.closed j oj hoj hl e he hb
          rw [hon, getD_both hu] at h2
          cases h2
        | false => exact tail_late hs hc hn h m j (by omega) hlt (getD_in (by rw [h.inv.size]; omega) hl) t (Nat.le_refl _) hr
      · obtain rfl : j = t := by omega
        obtain rfl := Option.some.inj (hoj.symm.trans hot)
        have h2 := hall e he hb
        rw [hon, getD_both hu] at h2
        cases h2

/-- an operation of the head that is ready may be taken first -/
theorem head_first {n i : Nat} {oi : Oper} {v : Value} {L : Array Bool → Act → Prop} (hi : ops[i]? = some oi) (hsel : ∀ (j : Nat) (o : Oper) cs b, ops[j]? = some o → o.op ≠ .select cs b)
    (hs : sink0 md ops n = true) (hc : Region.chainB md ops n = true) (hn : n < ops.size) (hin : i < n) (hdone : ∀ listed a, L listed a → ∀ j ∈ Region.ready md ops listed, n ≤ j) :
    ∀ (f : Nat) (listed : Array Bool) (a : Act), HI md ops n listed →
      (∀ j oj, ops[j]? = some oj → j ≠ i → listed.getD j true = false → (∀ e ∈ oj.after, Region.binds md e = true → e.on ≠ i) → oi.apart ops oj = true) →
      i ∈ Region.ready md ops listed → YieldsAt P ops w oi v a → wpAnyL P md ops w n L f (listed.setIfInBounds i true) (a.put oi.dst v) → wpAnyL P md ops w n L (f + 1) listed a
  | f, listed, a, h, hfree, hr, hy, H => by
    have hu := (mem_ready.1 hr).1
    have early : ∀ j ∈ Region.ready md ops listed, j < n := fun j hj => by
      rcases Nat.lt_or_ge j n with hlt | hge
      · exact hlt
      · exact absurd hj (tail_late hs hc hn h _ i (Nat.le_refl _) hin hu j hge)
    refine ⟨(fun e => by rw [e] at hr; exact absurd hr (by simp)), fun j hj => ⟨early j hj, ?_⟩⟩
    by_cases hji : j = i
    · subst hji; exact hy.stOp hi H
    · cases f with
      | zero =>
        have := hdone _ _ H j (ready_mono hj hji)
        have := early j hj
        omega
      | succ f =>
        have h1 := (H.2 j (ready_mono hj hji)).2
        obtain ⟨hju, oj, hoj, hall⟩ := mem_ready.1 hj
        have hnot : ∀ e ∈ oj.after, Region.binds md e = true → e.on ≠ i := fun e he hb heq => by
          have h2 := hall e he hb
          rw [heq, getD_both hu] at h2
          cases h2
        refine stOp_mono (fun a' h3 => head_first hi hsel hs hc hn hin hdone f (listed.setIfInBounds j true) a' (h.put hj (early j hj)) (fun k ok hk hki huk hno => ?_) (ready_mono hr (Ne.symm hji)) h3.1 ?_)
          (stOp_put hoj (hfree j oj hoj hji hju hnot) (fun cs b => hsel i oi cs b hi) (fun cs b => hsel j oj cs b hoj) hy h1)
        · refine hfree k ok hk hki ?_ hno
          by_cases hjk : j = k
          · subst hjk; exact hju
          · rwa [getD_set_ne true hjk] at huk
        · rw [Array.setIfInBounds_comm _ _ hji]
          exact h3.2

theorem head_lex {n g : Nat} {Lq : Act → Prop} (hsel : Region.noSelect ops = true) (hs : sink0 md ops n = true) (hc : Region.chainB md ops n = true) (hn : n < ops.size) :
    ∀ (l : List Oper) (k : Nat) (listed : Array Bool) (a : Act), (∀ j, j < l.length → l[j]? = ops[k + j]?) → k + l.length = n → HI md ops n listed → Region.lexHead md ops g l.length k listed = true → wpStill P ops w Lq l a →
      wpAnyL P md ops w n (fun listed' a' => Region.seqB md ops g n listed' = true ∧ Lq a') l.length listed a
  | [], k, listed, a, _, hk, _, hB, h => by
    obtain rfl : k = n := by simpa using hk
    exact ⟨hB, h⟩
  | o :: l, k, listed, a, hl, hk, inv, hB, h => by
    have h0 : ops[k]? = some o := by simpa using (hl 0 (by simp)).symm
    simp only [List.length_cons] at hk
    simp only [List.length_cons, Region.lexHead, Bool.and_eq_true] at hB
    have hr : k ∈ Region.ready md ops listed := by simpa using hB.1.1
    obtain ⟨v, hy, hK⟩ := yieldsAt_of_stOp h0 (show stOp P ops w k (wpStill P ops w Lq l) a by unfold stOp; simp only [h0]; exact h)
    exact head_first h0 (Region.noSelect_spec hsel) hs hc hn (by omega) (fun listed' a' hL => seqB_ready hL.1) l.length listed a inv (Region.free_spec h0 hB.1.2) hr hy
      (head_lex hsel hs hc hn l (k + 1) _ _ (fun j hj => by have := hl (j + 1) (by simp; omega); simpa [Nat.add_assoc, Nat.add_comm 1 j] using this) (by omega) (inv.put hr (by omega)) hB.2 hK)

/-- what is asked of the region: by evaluation -/
def tail0B (ops : Array Oper) (n : Nat) : Bool :=
  Region.noSelect ops && decide (0 < n) && decide (n < ops.size) && sink0 .any ops n && Region.chainB .any ops n && Region.free .any ops (Array.replicate ops.size false) 0 && (Region.ready .any ops (Array.replicate ops.size false)).contains 0 &&
    Region.lexHead .any ops (ops.size - n) (n - 1) 1 ((Array.replicate ops.size false).setIfInBounds 0 true)

theorem wp_region_tail0 {id : Nat} {Q : Exit → Act → World → Prop} {a : Act} {o0 : Oper} {l : List Oper} (n : Nat) (hm : P.follows .mixedOrders = true) (hB : tail0B (o0 :: l).toArray (n + 1) = true) (x : Operand) (ho : o0.op = .move x) (hg : o0.guard = none)
    (hQ' : ∀ (v : Value) c a w, Q (.panic c) (a.put o0.dst v) w → Q (.panic c) a w)
    (h : wpQuiet P (o0 :: l).toArray (fun w' => w' = w.drewN 1) (fun a' => wpList P (o0 :: l).toArray Q (l.drop n) a' (w.drewN 1)) (l.take n) (a.put o0.dst (a.eval x))) : (Code.region id (o0 :: l).toArray true).wp P Q a w := by
  simp only [tail0B, Bool.and_eq_true, decide_eq_true_eq] at hB
  obtain ⟨⟨⟨⟨⟨⟨⟨hsel, h0n⟩, hn⟩, hs⟩, hc⟩, hf⟩, hr⟩, hlex⟩ := hB
  have hsz : (o0 :: l).toArray.size = l.length + 1 := by simp
  have hnl : n < l.length := by rw [hsz] at hn; omega
  have hi0 : (o0 :: l).toArray[0]? = some o0 := by simp
  refine wp_region_any hm ?_
  rw [hsz] at hf hr hlex ⊢
  have hrun : ∀ w', (execOp a.eval o0).run P w' = .ok (.value (a.eval x)) w' := fun w' => by unfold execOp; rw [ho]; rfl
  refine wpAny_take (i := 0) (oi := o0) (v := a.eval x) (fuel := l.length) hi0 hsel hf hr (hQ' (a.eval x)) (.inl ⟨by simp [Region.wanted, hg], hrun⟩) ?_
  have hst := still_of_quiet _ _ h
  have htl : (l.take n).length = n := by simp; omega
  have hz : (Array.replicate (l.length + 1) false).setIfInBounds 0 true = (Array.replicate (l.length + 1) false).setIfInBounds 0 true := rfl
  have inv0 : HI .any (o0 :: l).toArray (n + 1) ((Array.replicate (l.length + 1) false).setIfInBounds 0 true) := by
    have hr' : (0 : Nat) ∈ Region.ready .any (o0 :: l).toArray (Array.replicate (l.length + 1) false) := by simpa using hr
    have base : HeadInv .any (o0 :: l).toArray (n + 1) (Array.replicate (l.length + 1) false) :=
      ⟨by simp, fun j oj _ hl => (by rw [getD_replicate_false] at hl; cases hl), fun t _ ht => getD_in (by rw [hsz] at ht; simpa using ht) (getD_replicate_false _ _)⟩
    exact ⟨base.set hr' (by omega), by simp⟩
  have H := head_lex (P := P) (w := w.drewN 1) (g := l.length + 1 - (n + 1)) hsel hs hc hn (l.take n) 1 _ (a.put o0.dst (a.eval x)) (fun j hj => by
    have hj' : j < n := by rw [htl] at hj; exact hj
    rw [List.getElem?_take_of_lt hj']
    simp [Nat.add_comm 1 j]) (by rw [htl]; omega) inv0 (by rw [htl]; exact hlex) hst
  have hdl : (l.drop n).length = l.length + 1 - (n + 1) := by simp
  have := wpAny_of_head (Q' := Q) (g := l.length + 1 - (n + 1)) (fun listed a' hL => by
    have := wpAny_of_seq (md := .any) (Q' := Q) (l.drop n) (n + 1) listed a' (w.drewN 1) (fun j => by simp [List.getElem?_drop]; rw [show n + 1 + j = n + j + 1 by omega]; simp) (by rw [hdl]; exact hL.1) hL.2
    rwa [hdl] at this) _ _ _ H
  rw [htl, show n + (l.length + 1 - (n + 1)) = l.length by omega] at this
  exact this
end
end Go.Proofs.YthkklojjpgjiiaaFmt
namespace Go.Proofs.YthkklojjpgjiiaaFmt
open Go.RowKit

theorem info_u8o : (Tryf.prog.info? 5).map (fun i => (i.zero, i.size, i.bytes)) = some (some (.int .u8 0), 1, 1) := by kernel_rfl

/-- The slice value v, made by the call (its block from 'base' on), holds the bytes l. -/
def Own (w : World) (base : Nat) (v : Value) (l : List UInt8) : Prop := w.ownsRow base 5 1 v l.length (Lib.byteCells l)

section
variable {w w' : World} {base : Nat} {v : Value} {l : List UInt8}

theorem Own.form (h : Own w base v l) : ∃ A c, v = .slice A l.length c ∧ Sl w w.heap.size A l.length c l ∧ (0 < l.length → ∃ g, A = some ⟨g, 0, none⟩ ∧ base ≤ g ∧ g < w.heap.size) := by
  rcases h.2 with ⟨rfl, h0⟩ | ⟨g, cap, cur, rfl, hb, hh, hc, hm, hs, ht⟩
  · refine ⟨none, 0, by rw [h0], ?_, fun hn => by omega⟩
    have : l = [] := List.eq_nil_of_length_eq_zero h0
    subst this
    exact Sl.nil _ _
  · have hg : g < w.heap.size := by
      rcases Nat.lt_or_ge g w.heap.size with hlt | hge
      · exact hlt
      · rw [Array.getElem?_eq_none hge] at hh; cases hh
    refine ⟨some ⟨g, 0, none⟩, cap, rfl, ⟨rfl, hc, hm, .inr ⟨g, 0, rfl, hg, fun j hj => ?_⟩⟩, fun _ => ⟨g, rfl, hb, hg⟩⟩
    have hat := World.ownsRow.cellAt (g := g) (cap := cap) h j (by omega)
    rw [Nat.zero_add, hat]
    simp [Lib.byteCells, hj]

theorem Own.drew (h : Own w base v l) : Own w.drew base v l := h
theorem Own.drewN (h : Own w base v l) (k : Nat) : Own (w.drewN k) base v l := h
theorem Own.alloc (h : Own w base v l) (o : Obj) : Own (w.alloc o) base v l := World.ownsRow.alloc h o
theorem Own.nil (w : World) (base : Nat) : Own w base (.slice none 0 0) [] := World.ownsRow_nil _ _ _ _
theorem Own.below (h : Own w base v l) (hb : Below w.heap.size w w') : Own w' base v l := by
  refine World.ownsRow.kept (row := none) h ⟨hb.os, hb.tape, hb.output, hb.size, fun i hi _ => hb.block i hi⟩ ?_
  rcases h.2 with ⟨rfl, h0⟩ | ⟨g, cap, cur, rfl, _⟩
  · exact .inl rfl
  · exact .inr (by simp [Value.ownBlock])
/-- an empty literal, []byte of nothing -/
theorem Own.lit (w : World) (hb : base ≤ w.heap.size) : Own (w.alloc (.cells #[] 5)) base (.slice (some ⟨w.heap.size, 0, none⟩) 0 0) [] :=
  World.ownsRow_lit w #[] 0 hb (by unfold maxLen; omega) rfl

/-- one byte is stored -/
theorem Own.set_ {g cap n : Nat} (h : Own w base (.slice (some ⟨g, 0, none⟩) n cap) l) (j : Nat) (b : UInt8) :
    Own (w.setCell ⟨g, j, none⟩ (.int .u8 b.toNat)) base (.slice (some ⟨g, 0, none⟩) n cap) (l.set j b) ∧ w.grownBy (w.setCell ⟨g, j, none⟩ (.int .u8 b.toNat)) (some g) := by
  have hn : n = l.length := by
    rcases h.2 with ⟨e, _⟩ | ⟨g, cap, cur, e, _⟩
    · cases e
    · injection e
  subst hn
  have h2 := World.ownsRow.stored (g := g) (cap := cap) h j (.int .u8 b.toNat)
  refine ⟨?_, h2.2⟩
  unfold Own
  rw [List.length_set]
  have e : Lib.byteCells (l.set j b) = (Lib.byteCells l).set j (.int .u8 b.toNat) := by simp [Lib.byteCells, List.map_set]
  rw [e]
  exact h2.1

/-- several bytes are stored one behind the other -/
def setAll : List UInt8 → Nat → List UInt8 → List UInt8
  | l, _, [] => l
  | l, i, b :: r => setAll (l.set i b) (i + 1) r
theorem setAll_length : ∀ (vs l : List UInt8) (i : Nat), (setAll l i vs).length = l.length
  | [], _, _ => rfl
  | b :: r, l, i => by rw [setAll, setAll_length r]; simp
theorem Own.setMany {g cap n : Nat} : ∀ (vs : List UInt8) (l : List UInt8) (w : World) (i : Nat), Own w base (.slice (some ⟨g, 0, none⟩) n cap) l →
    Own (w.setCells g i (Lib.byteCells vs)) base (.slice (some ⟨g, 0, none⟩) n cap) (setAll l i vs) ∧ w.grownBy (w.setCells g i (Lib.byteCells vs)) (some g)
  | [], _, w, _, h => ⟨h, World.grownBy.refl w _⟩
  | b :: r, l, w, i, h => by
    have h1 := h.set_ i b
    have h2 := Own.setMany r (l.set i b) _ (i + 1) h1.1
    exact ⟨h2.1, h1.2.trans h2.2⟩
end

section
variable {P : Program} (w : World)
theorem run_append_nothing (base : Nat) (t ty e : TypeId) (i : TypeInfo) (ht : P.underlying t = some (.slice e)) (hi : P.info? e = some i)
    (v : Value) (l : List UInt8) (hown : w.ownsRow base e 1 v l.length (Lib.byteCells l)) (c : Nat) : (Builtin.append_ #[t, t] ty #[v, .slice none 0 c]).run P w = .ok v w := by
  rcases hown.2 with ⟨rfl, h0⟩ | ⟨g, cap, cur, rfl, _, _, hnc, _⟩
  · simp [Builtin.append_, run_underlying ht, sizeOf, typeInfo, hi, Builtin.lenOf, Builtin.firstCells]
  · simp [Builtin.append_, run_underlying ht, sizeOf, typeInfo, hi, Builtin.lenOf, Builtin.firstCells, hnc, storeCells]

theorem byteCells_append (a b : List UInt8) : Lib.byteCells (a ++ b) = Lib.byteCells a ++ Lib.byteCells b := by simp [Lib.byteCells]

set_option maxRecDepth 100000 in
theorem run_append_sl (base : Nat) (ty : TypeId) (v : Value) (l l2 : List UInt8) (hown : Own w base v l) (B : Nat) (A : Option Addr) (n c : Nat) (hs : Sl w B A n c l2)
    (hbytes : l.length + n ≤ 140737488355328) (hbase : base ≤ w.heap.size) :
    ∃ v' w', (Builtin.append_ #[28, 28] ty #[v, .slice A n c]).run Tryf.prog w = .ok v' w' ∧ Own w' base v' (l ++ l2) ∧ w.grownBy w' v.ownBlock ∧
      (v'.ownBlock = v.ownBlock ∨ v'.ownBlock = some w.heap.size) := by
  obtain ⟨i, hi, hz, hsz, hby⟩ := info_parts info_u8o
  obtain rfl := hs.len
  rcases A with _ | ad
  · have h0 : l2.length = 0 := by
      rcases hs.2.2.2 with e | ⟨g, o, e, _⟩
      · exact e
      · cases e
    have : l2 = [] := List.eq_nil_of_length_eq_zero h0
    subst this
    refine ⟨v, w, run_append_nothing w base _ ty _ i Tryf.underlying28 hi v l hown c, by simpa using hown, World.grownBy.refl w _, .inl rfl⟩
  · have hnews : ∀ j u, (Lib.byteCells l2)[j]? = some u → w.cell? (ad.add j) = some u := by
      intro j u hu
      rcases hs.2.2.2 with e | ⟨g, o, e, hb, hc⟩
      · have : l2 = [] := List.eq_nil_of_length_eq_zero e
        subst this
        simp [Lib.byteCells] at hu
      · injection e with e
        subst e
        have hj : j < l2.length := by
          have := List.getElem?_eq_some_iff.1 hu
          obtain ⟨h, _⟩ := this
          simpa [Lib.byteCells] using h
        rw [add_some, hc j hj]
        simpa [Lib.byteCells, hj] using hu
    obtain ⟨v', w', hrun, h2, h3, _, h5⟩ := run_append_own_at (P := Tryf.prog) w base 28 ty 5 i _ 1 1 Tryf.underlying28 hi hz hsz hby rfl (by omega) v l.length (Lib.byteCells l) hown ad l2.length c
      (Lib.byteCells l2) (by simp [Lib.byteCells]) hnews (by intro u hu; simp only [Lib.byteCells, List.mem_map] at hu; obtain ⟨b, _, rfl⟩ := hu; rfl) (by unfold maxLen; omega) (by omega) hbase
    refine ⟨v', w', hrun, ?_, h3, h5⟩
    unfold Own
    rw [List.length_append, byteCells_append]
    exact h2

theorem Own.place {w : World} {base : Nat} {v : Value} {l : List UInt8} (h : Own w base v l) : ∀ k, v.ownBlock = some k → base ≤ k := fun k hk => (World.ownsRow.lt h k hk).1

/-- What an append of bytes leaves. -/
structure App (w w' : World) (base : Nat) (v : Value) (A' : Option Addr) (n' c' : Nat) (l' : List UInt8) : Prop where
  own : Own w' base (.slice A' n' c') l'
  sl : Sl w' w'.heap.size A' n' c' l'
  bel : Below base w w'
  le : base ≤ w'.heap.size
  grown : w.grownBy w' v.ownBlock
  at_ : 0 < n' → ∃ g, A' = some ⟨g, 0, none⟩ ∧ base ≤ g ∧ g < w'.heap.size

theorem wp_append_sl {o : Oper} {a : Act} {K : Act → World → Prop} {Q : Exit → Act → World → Prop} (s x : Operand)
    (ho : o.op = .call { callee := .builtin .append, args := #[s, x], argTypes := #[28, 28] })
    (base : Nat) (v : Value) (l l2 : List UInt8) (hs : a.eval s = v) (hown : Own w base v l) (B : Nat) (A : Option Addr) (n c : Nat) (hx : a.eval x = .slice A n c) (hsl : Sl w B A n c l2)
    (hbytes : l.length + n ≤ 140737488355328) (hbase : base ≤ w.heap.size) (n' : Nat) (l' : List UInt8) (hn' : l.length + n = n') (hl' : l ++ l2 = l')
    (h : ∀ A' c' w', App w w' base v A' n' c' l' → K (a.put o.dst (.slice A' n' c')) w') : o.wp Tryf.prog a w K Q := by
  obtain ⟨v', w', hrun, h2, h3, h4⟩ := run_append_sl w base o.type v l l2 hown B A n c hsl hbytes hbase
  subst hl'
  have hlen : (l ++ l2).length = n' := by have := hsl.len; simp; omega
  obtain ⟨A', c', hv', hsl', hat'⟩ := h2.form
  rw [hlen] at hv' hsl' hat'
  subst hv'
  unfold Oper.wp execOp
  simp only [ho, resolve, invoke, builtin, Sem.run_bind, Sem.run_pure, Result.andThen_ok, List.map_toArray, List.map_cons, List.map_nil, hs, hx, hrun]
  exact h A' c' w' ⟨h2, hsl', (Below.refl _ _).grown h3 hbase hown.place, Nat.le_trans hbase h3.size, h3, hat'⟩

theorem wpList_append_sl {ops : Array Oper} {rest : List Oper} {o : Oper} {a : Act} {Q : Exit → Act → World → Prop} (hgd : o.guard = none) (s x : Operand)
    (ho : o.op = .call { callee := .builtin .append, args := #[s, x], argTypes := #[28, 28] })
    (base : Nat) (v : Value) (l l2 : List UInt8) (hs : a.eval s = v) (hown : Own w base v l) (B : Nat) (A : Option Addr) (n c : Nat) (hx : a.eval x = .slice A n c) (hsl : Sl w B A n c l2)
    (hbytes : l.length + n ≤ 140737488355328) (hbase : base ≤ w.heap.size) (n' : Nat) (l' : List UInt8) (hn' : l.length + n = n') (hl' : l ++ l2 = l')
    (h : ∀ A' c' w', App w w' base v A' n' c' l' → wpList Tryf.prog ops Q rest (a.put o.dst (.slice A' n' c')) w') : wpList Tryf.prog ops Q (o :: rest) a w :=
  wpList_plain hgd fun _ hK => wp_append_sl w s x ho base v l l2 hs hown B A n c hx hsl hbytes hbase n' l' hn' hl' fun A' c' w' h2 => hK _ _ (h A' c' w' h2)
end
end Go.Proofs.YthkklojjpgjiiaaFmt
