/-
  Bits of bytes as numbers, plain: joining, cutting, bytes beyond the end. Conditions: those of each.
  Slices of int that the call itself made, appended to by one number. Plain lemmas; conditions: those of each.
-/
import Derived.Test.YthkklojjpgjiiaaFmtCodeT06
import Derived.Maps.AppendAt
import Derived.Deep.AppendLies
import Derived.Laws.OwnMore
import Derived.Laws.IdiomCopy
namespace Go.Proofs.YthkklojjpgjiiaaFmt

theorem numF_add (l : List UInt8) (i a : Nat) : ∀ b, numF l i (a + b) = numF l i a + 2 ^ a * numF l (i + a) b
  | 0 => by simp [numF]
  | b + 1 => by
    rw [← Nat.add_assoc, numF, numF_add l i a b, numF, Nat.mul_add, ← Nat.add_assoc i a b, Nat.pow_add, Nat.add_assoc]
    congr 2
    exact Nat.mul_left_comm _ _ _
theorem numF_mod (l : List UInt8) (i a b : Nat) : numF l i (a + b) % 2 ^ a = numF l i a := by
  rw [numF_add, Nat.add_mul_mod_self_left, Nat.mod_eq_of_lt (numF_lt l i a)]
theorem numF_mod_le (l : List UInt8) (i a k : Nat) (h : a ≤ k) : numF l i k % 2 ^ a = numF l i a := by
  obtain ⟨b, rfl⟩ := Nat.le.dest h
  exact numF_mod l i a b
theorem numF_div (l : List UInt8) (i a b : Nat) : numF l i (a + b) / 2 ^ a = numF l (i + a) b := by
  rw [numF_add, Nat.add_mul_div_left _ _ (Nat.two_pow_pos a), Nat.div_eq_of_lt (numF_lt l i a), Nat.zero_add]
theorem bitAt_take (l : List UInt8) (m i : Nat) (h : i < 8 * m) : bitAt (l.take m) i = bitAt l i := by
  unfold bitAt
  rw [List.getD_eq_getElem?_getD, List.getD_eq_getElem?_getD, List.getElem?_take_of_lt (by omega)]
theorem numF_take (l : List UInt8) (m i : Nat) : ∀ k, i + k ≤ 8 * m → numF (l.take m) i k = numF l i k
  | 0, _ => rfl
  | k + 1, h => by rw [numF, numF, numF_take l m i k (by omega), bitAt_take l m _ (by omega)]
theorem numF_zero (l : List UInt8) (i : Nat) (h : 8 * l.length ≤ i) : ∀ k, numF l i k = 0
  | 0 => rfl
  | k + 1 => by rw [numF, numF_zero l i h k, bitAt_over l _ (by omega)]; simp
theorem numF_past (l : List UInt8) (i a k : Nat) (h : 8 * l.length ≤ i + a) (ha : a ≤ k) : numF l i k = numF l i a := by
  obtain ⟨b, rfl⟩ := Nat.le.dest ha
  rw [numF_add, numF_zero l _ h]
  simp
/-- shifting a window that reaches to the end of its bytes -/
theorem numF_shift (l : List UInt8) (i s k : Nat) (h : 8 * l.length ≤ i + k) (hs : s ≤ k) : numF l i k / 2 ^ s = numF l (i + s) k := by
  obtain ⟨b, rfl⟩ := Nat.le.dest hs
  rw [numF_div, numF_past l (i + s) b (s + b) (by omega) (by omega)]
theorem numF_byte (l : List UInt8) (j : Nat) : numF l (8 * j) 8 = (l.getD j 0).toNat := by
  have h : ∀ v : Fin 256, (((((((0 + v.val / 2 ^ 0 % 2 * 2 ^ 0) + v.val / 2 ^ 1 % 2 * 2 ^ 1) + v.val / 2 ^ 2 % 2 * 2 ^ 2) + v.val / 2 ^ 3 % 2 * 2 ^ 3) + v.val / 2 ^ 4 % 2 * 2 ^ 4) + v.val / 2 ^ 5 % 2 * 2 ^ 5) + v.val / 2 ^ 6 % 2 * 2 ^ 6) + v.val / 2 ^ 7 % 2 * 2 ^ 7 = v.val := by decide +kernel
  have hb : ∀ k, k < 8 → bitAt l (8 * j + k) = (l.getD j 0).toNat / 2 ^ k % 2 := by
    intro k hk
    unfold bitAt
    rw [show (8 * j + k) / 8 = j by omega, show (8 * j + k) % 8 = k by omega]
  simp only [numF]
  rw [hb 0 (by omega), hb 1 (by omega), hb 2 (by omega), hb 3 (by omega), hb 4 (by omega), hb 5 (by omega), hb 6 (by omega), hb 7 (by omega)]
  exact h ⟨(l.getD j 0).toNat, UInt8.toNat_lt _⟩
theorem numF_word (l : List UInt8) (j : Nat) : numF l (8 * j) 32 = (l.getD j 0).toNat + 256 * (l.getD (j + 1) 0).toNat + 65536 * (l.getD (j + 2) 0).toNat + 16777216 * (l.getD (j + 3) 0).toNat := by
  have h1 := numF_add l (8 * j) 8 24
  have h2 := numF_add l (8 * (j + 1)) 8 16
  have h3 := numF_add l (8 * (j + 2)) 8 8
  simp only [Nat.reduceAdd] at h1 h2 h3
  rw [h1, show 8 * j + 8 = 8 * (j + 1) by omega, h2, show 8 * (j + 1) + 8 = 8 * (j + 2) by omega, h3, show 8 * (j + 2) + 8 = 8 * (j + 3) by omega, numF_byte, numF_byte, numF_byte, numF_byte]
  omega

/-- a chance of a number of bits that was read, and how many bits it takes -/
def chanceV (v left : Nat) : Int × Nat :=
  if v % chT left < chFew left then ((v % chT left : Nat) - 1, chB left - 1)
  else if chT left ≤ v then ((v : Int) - chFew left - 1, chB left)
  else ((v : Int) - 1, chB left)
theorem chB_ge (left : Nat) (h : 1 ≤ left) : 2 ≤ chB left := by
  unfold chB
  have := (Nat.le_log2 (n := left + 1) (k := 1) (by omega)).2 (by omega)
  omega
theorem chT_facts (left : Nat) : chT left ≤ left + 1 ∧ left + 1 < 2 * chT left ∧ 2 ^ chB left = 2 * chT left := by
  unfold chT chB
  refine ⟨Nat.log2_self_le (by omega), ?_, by rw [Nat.pow_succ]; omega⟩
  have := Nat.lt_log2_self (n := left + 1)
  rw [Nat.pow_succ] at this
  omega
theorem chanceF_eq (l : List UInt8) (i left : Nat) (h : 1 ≤ left) : chanceF l i left = ((chanceV (numF l i (chB left)) left).1, i + (chanceV (numF l i (chB left)) left).2) := by
  have := chB_ge left h
  unfold chanceF chanceV
  split
  · exact Prod.ext rfl (by show i + chB left - 1 = i + (chB left - 1); omega)
  · split <;> rfl
theorem chanceV_facts (v left : Nat) (hv : v < 2 * chT left) : -1 ≤ (chanceV v left).1 ∧ (chanceV v left).1 ≤ left ∧ chB left - 1 ≤ (chanceV v left).2 ∧ (chanceV v left).2 ≤ chB left := by
  have ht := chT_facts left
  have hf : chFew left = 2 * chT left - 1 - (left + 1) := rfl
  unfold chanceV
  split
  · rename_i h1
    have : v % chT left < chT left := Nat.mod_lt _ (by omega)
    refine ⟨?_, ?_, ?_, ?_⟩ <;> dsimp only <;> omega
  · rename_i h1
    split
    · rename_i h2
      refine ⟨?_, ?_, ?_, ?_⟩ <;> dsimp only <;> omega
    · rename_i h2
      have : v % chT left = v := Nat.mod_eq_of_lt (by omega)
      refine ⟨?_, ?_, ?_, ?_⟩ <;> dsimp only <;> omega

/-- a run of zeros: so many, and where it ends -/
inductive ZR (l : List UInt8) : Nat → Nat → Nat → Prop
  | last {i : Nat} (h : numF l i 2 < 3 ∨ 8 * l.length < i + 2) : ZR l i (numF l i 2) (i + 2)
  | more {i k j : Nat} (h : numF l i 2 = 3) (h2 : i + 2 ≤ 8 * l.length) (hz : ZR l (i + 2) k j) : ZR l i (k + 3) j
theorem ZR.ge {l : List UInt8} {i k j : Nat} (h : ZR l i k j) : i + 2 ≤ j := by
  induction h with
  | last _ => exact Nat.le_refl _
  | more _ _ _ ih => omega
theorem ZR.inv_last {l : List UInt8} {i k j : Nat} (h : ZR l i k j) (hv : numF l i 2 < 3) : k = numF l i 2 ∧ j = i + 2 := by
  cases h with
  | last h => exact ⟨rfl, rfl⟩
  | more h h2 hz => omega
theorem ZR.inv_more {l : List UInt8} {i k j : Nat} (h : ZR l i k j) (hv : numF l i 2 = 3) (hi : i + 2 ≤ 8 * l.length) : ∃ k', k = k' + 3 ∧ ZR l (i + 2) k' j := by
  cases h with
  | last h => omega
  | more h h2 hz => exact ⟨_, rfl, hz⟩
theorem ZR.inv_pairs {l : List UInt8} {j : Nat} : ∀ (m i k : Nat), ZR l i k j → (∀ t, t < m → numF l (i + 2 * t) 2 = 3) → i + 2 * m ≤ 8 * l.length → ∃ k', k = k' + 3 * m ∧ ZR l (i + 2 * m) k' j
  | 0, i, k, h, _, _ => ⟨k, rfl, h⟩
  | m + 1, i, k, h, hv, hi => by
    obtain ⟨k1, rfl, h1⟩ := h.inv_more (by simpa using hv 0 (by omega)) (by omega)
    obtain ⟨k2, rfl, h2⟩ := ZR.inv_pairs m (i + 2) k1 h1 (fun t ht => by have := hv (t + 1) (by omega); rwa [show i + 2 * (t + 1) = i + 2 + 2 * t by omega] at this) (by omega)
    exact ⟨k2, by omega, by rwa [show i + 2 + 2 * m = i + 2 * (m + 1) by omega] at h2⟩

/-- the reading of chances from a place, so many parts left, some read: they and where they end, or a refusal -/
inductive CR (l : List UInt8) : Nat → Nat → List Int → Option (List Int × Nat) → Prop
  | done {i : Nat} {out : List Int} (h : i ≤ 8 * l.length) (h2 : out.length ≤ 256) : CR l i 0 out (some (out, i))
  | bad {i : Nat} {out : List Int} (h : 8 * l.length < i ∨ 256 < out.length) : CR l i 0 out none
  | stop {i left : Nat} {out : List Int} (h0 : 0 < left) (h : 8 * l.length < i ∨ 255 < out.length) : CR l i left out none
  | some_ {i left : Nat} {out : List Int} {c : Int} {j : Nat} {R : Option (List Int × Nat)} (h0 : 0 < left) (h : i ≤ 8 * l.length) (h2 : out.length ≤ 255) (hc : chanceF l i left = (c, j)) (hne : c ≠ 0) (hr : CR l j (left - c.natAbs) (out ++ [c]) R) : CR l i left out R
  | zero {i left : Nat} {out : List Int} {j k j2 : Nat} {R : Option (List Int × Nat)} (h0 : 0 < left) (h : i ≤ 8 * l.length) (h2 : out.length ≤ 255) (hc : chanceF l i left = (0, j)) (hz : ZR l j k j2) (hr : CR l j2 left (out ++ [0] ++ List.replicate k 0) R) : CR l i left out R
/-- what the reading comes to where the last byte is begun -/
def LostR (l : List UInt8) (R : Option (List Int × Nat)) : Prop := ∀ o i, R = some (o, i) → 8 * (l.length - 1) < i
theorem CR.lost {l : List UInt8} {i left : Nat} {out : List Int} {R : Option (List Int × Nat)} (h : CR l i left out R) (hi : 8 * (l.length - 1) < i) : LostR l R := by
  induction h with
  | done h h2 => rintro o i e; cases e; exact hi
  | bad h => rintro o i e; cases e
  | stop h0 h => rintro o i e; cases e
  | some_ h0 h h2 hc hne hr ih =>
    refine ih ?_
    rw [chanceF_eq _ _ _ h0] at hc
    have := congrArg Prod.snd hc
    dsimp only at this
    omega
  | zero h0 h h2 hc hz hr ih =>
    refine ih ?_
    rw [chanceF_eq _ _ _ h0] at hc
    have := congrArg Prod.snd hc
    have := hz.ge
    dsimp only at *
    omega
theorem CR.long {l : List UInt8} {i left : Nat} {out : List Int} {R : Option (List Int × Nat)} (h : CR l i left out R) (h0 : 0 < left) (hl : 255 < out.length) : R = none := by
  cases h with
  | done => omega
  | bad => omega
  | stop => rfl
  | some_ => omega
  | zero => omega
def sumA (o : List Int) : Nat := (o.map Int.natAbs).sum
theorem sumA_append (a b : List Int) : sumA (a ++ b) = sumA a + sumA b := by simp [sumA]
theorem sumA_one (c : Int) : sumA [c] = c.natAbs := by simp [sumA]
theorem sumA_zeros (k : Nat) : sumA (List.replicate k 0) = 0 := by simp [sumA]
/-- chances that may stand: each at least -1 -/
def Least (o : List Int) : Prop := ∀ c ∈ o, -1 ≤ c
theorem Least.snoc {o : List Int} (h : Least o) {c : Int} (hc : -1 ≤ c) : Least (o ++ [c]) := by
  intro x hx
  rcases List.mem_append.1 hx with h1 | h1
  · exact h x h1
  · rw [List.mem_singleton.1 h1]; exact hc
theorem Least.zeros {o : List Int} (h : Least o) (k : Nat) : Least (o ++ List.replicate k 0) := by
  intro x hx
  rcases List.mem_append.1 hx with h1 | h1
  · exact h x h1
  · rw [(List.mem_replicate.1 h1).2]; decide
theorem CR.valid {l : List UInt8} {i left : Nat} {out : List Int} {R : Option (List Int × Nat)} (h : CR l i left out R) : ∀ o j, R = some (o, j) → Least out → Least o ∧ sumA o = sumA out + left ∧ o.length ≤ 256 ∧ j ≤ 8 * l.length := by
  induction h with
  | done h h2 => rintro o j e hl; cases e; exact ⟨hl, rfl, h2, h⟩
  | bad h => rintro o j e; cases e
  | stop h0 h => rintro o j e; cases e
  | @some_ i left out c j R h0 h h2 hc hne hr ih =>
    intro o j2 e hl
    rw [chanceF_eq _ _ _ h0] at hc
    have h1 := congrArg Prod.fst hc
    have hf := chanceV_facts (numF l i (chB left)) left (by have := numF_lt l i (chB left); rw [(chT_facts left).2.2] at this; exact this)
    dsimp only at h1
    rw [h1] at hf
    obtain ⟨a, b, c', d⟩ := ih o j2 e (hl.snoc hf.1)
    refine ⟨a, ?_, c', d⟩
    rw [b, sumA_append, sumA_one]
    omega
  | zero h0 h h2 hc hz hr ih =>
    intro o j2 e hl
    obtain ⟨a, b, c', d⟩ := ih o j2 e ((hl.snoc (by decide)).zeros _)
    refine ⟨a, ?_, c', d⟩
    rw [b, sumA_append, sumA_append, sumA_one, sumA_zeros]
    simp
end Go.Proofs.YthkklojjpgjiiaaFmt
namespace Go.Proofs.YthkklojjpgjiiaaFmt
open Go.RowKit

theorem info_int : (Tryf.prog.info? 3).map (fun i => (i.zero, i.size, i.bytes)) = some (some (.int .i64 0), 1, 8) := by kernel_rfl

/-- The slice value v, made by the call (its block from 'base' on), holds the numbers l. -/
def OwnI (w : World) (base : Nat) (v : Value) (l : List Int) : Prop := w.ownsRow base 3 1 v l.length (l.map (Value.int .i64))

section
variable {w w' : World} {base : Nat} {v : Value} {l : List Int}
theorem OwnI.drewN (h : OwnI w base v l) (k : Nat) : OwnI (w.drewN k) base v l := h
theorem OwnI.alloc (h : OwnI w base v l) (o : Obj) : OwnI (w.alloc o) base v l := World.ownsRow.alloc h o
theorem OwnI.nil (w : World) (base : Nat) : OwnI w base (.slice none 0 0) [] := World.ownsRow_nil _ _ _ _
theorem OwnI.lit (w : World) (hb : base ≤ w.heap.size) : OwnI (w.alloc (.cells #[] 3)) base (.slice (some ⟨w.heap.size, 0, none⟩) 0 0) [] :=
  World.ownsRow_lit w #[] 0 hb (by unfold maxLen; omega) rfl
theorem OwnI.block (h : OwnI w base v l) : ∀ k, v.ownBlock = some k → base ≤ k ∧ k < w.heap.size := World.ownsRow.lt h
/-- another world in which all blocks are the same, one below the base left aside -/
theorem OwnI.but (h : OwnI w base v l) {g : Nat} (hg : g < base) (h1 : w'.os = w.os) (h2 : w'.tape = w.tape) (h3 : w'.output = w.output) (hs : w.heap.size ≤ w'.heap.size) (hb : ∀ k, k ≠ g → k < w.heap.size → w'.heap[k]? = w.heap[k]?) : OwnI w' base v l := by
  refine World.ownsRow.kept (row := some g) h ⟨h1, h2, h3, hs, fun k hk hne => hb k (fun e => hne (by rw [e])) hk⟩ ?_
  cases hv : v.ownBlock with
  | none => exact .inl rfl
  | some k =>
    right
    intro e
    have := (OwnI.block h k hv).1
    cases e
    omega
theorem OwnI.len (h : OwnI w base v l) : ∃ A c, v = .slice A l.length c ∧ l.length ≤ c ∧ c ≤ maxLen := by
  rcases h.2 with ⟨rfl, h0⟩ | ⟨g, cap, cur, rfl, hb, hh, hc, hm, hs, ht⟩
  · exact ⟨none, 0, by rw [h0], by omega, by unfold maxLen; omega⟩
  · exact ⟨_, cap, rfl, hc, hm⟩
theorem OwnI.lenv (h : OwnI w base v l) : ∃ A c n, v = .slice A n c := by
  obtain ⟨A, c, rfl, _, _⟩ := h.len
  exact ⟨A, c, _, rfl⟩
theorem OwnI.open_ (h : OwnI w base v l) (hl : 0 < l.length) : ∃ G c, v = .slice (some ⟨G, 0, none⟩) l.length c ∧ base ≤ G ∧ G < w.heap.size ∧ ∀ k, k < l.length → w.cell? ⟨G, k, none⟩ = some (.int .i64 (l.getD k 0)) := by
  obtain ⟨A, c, rfl, hc, hm⟩ := h.len
  rcases h.2 with ⟨_, h0⟩ | ⟨g, cap, cur, hv, hb, hh, _⟩
  · omega
  · injection hv with h1 h2 h3
    subst h1
    subst h3
    have hg : g < w.heap.size := by
      rcases Nat.lt_or_ge g w.heap.size with hlt | hge
      · exact hlt
      · rw [Array.getElem?_eq_none hge] at hh; cases hh
    refine ⟨g, c, rfl, hb, hg, fun k hk => ?_⟩
    have hat := World.ownsRow.cellAt (g := g) (cap := c) h k (by omega)
    rw [hat]
    simp [hk]
theorem grown_below (hg : w.grownBy w' v.ownBlock) (h : OwnI w base v l) (B : Nat) (hB : B ≤ base) (hBs : B ≤ w.heap.size) : Below B w w' :=
  ⟨hg.os, hg.tape, hg.output, hg.size, fun k hk => hg.block k (by omega) (fun e => by have := (h.block k e.symm).1; omega)⟩
end

theorem wpList_append_i (w : World) {ops : Array Oper} {rest : List Oper} {o : Oper} {a : Act} {Q : Exit → Act → World → Prop} (hgd : o.guard = none) (s x : Operand)
    (ho : o.op = .call { callee := .builtin .append, args := #[s, x], argTypes := #[29, 29] })
    (base : Nat) (v : Value) (l : List Int) (hs : a.eval s = v) (hown : OwnI w base v l) (g : Nat) (hx : a.eval x = .slice (some ⟨g, 0, none⟩) 1 1) (c : Int) (hc : w.cell? ⟨g, 0, none⟩ = some (.int .i64 c))
    (hl : l.length ≤ 100000000) (hbase : base ≤ w.heap.size)
    (h : ∀ v' w', OwnI w' base v' (l ++ [c]) → Below base w w' → wpList Tryf.prog ops Q rest (a.put o.dst v') w') : wpList Tryf.prog ops Q (o :: rest) a w := by
  obtain ⟨i, hi, hz, hsz, hby⟩ := info_parts info_int
  refine wpList_append_own w hgd s x 29 ho base 3 i (.int .i64 0) 1 8 Tryf.underlying29 hi hz hsz hby rfl (by decide) v l.length (l.map (Value.int .i64)) hs hown ⟨g, 0, none⟩ 1 1 [.int .i64 c] hx rfl ?_ ?_ ?_ ?_ hbase ?_
  · intro j u hj
    match j, hj with
    | 0, hj => simp at hj; subst hj; simpa [Addr.add] using hc
  · intro u hu; simp at hu; subst hu; rfl
  · unfold maxLen; omega
  · omega
  · intro v' w' h2 h3 _
    refine h v' w' ?_ ⟨h3.os, h3.tape, h3.output, h3.size, fun k hk => h3.block k (by omega) (fun e => by have := (hown.block k e.symm).1; omega)⟩
    unfold OwnI
    rw [List.length_append, List.map_append]
    exact h2
end Go.Proofs.YthkklojjpgjiiaaFmt
