/-
  The length that stands ahead of a block, as a plain function, and what the varint decoder makes of the same bytes. No program in sight.
-/
import Derived.Test.YthiklljhhnedkaaDoorSl
import Derived.Lib.VarintDec
namespace Go.Proofs.YthiklljhhnedkaaDoor
open Go.RowKit

/-- i bytes are read, acc is what their seven bits spell; the length, the place behind it, and the class: 0 good, 1 refused, 2 open -/
def snFrom (tot i acc : Nat) : List UInt8 → Nat × Nat × Nat
  | [] => (0, 0, if 5 < tot then 2 else 1)
  | b :: r =>
    if i = 5 then (0, 0, if 5 < tot then 2 else 1)
    else if b.toNat < 128 then
      (if 4294967296 ≤ acc + b.toNat % 128 * 2 ^ (7 * i) then (0, 0, 1) else (acc + b.toNat % 128 * 2 ^ (7 * i), i + 1, 0))
    else snFrom tot (i + 1) (acc + b.toNat % 128 * 2 ^ (7 * i)) r
def snLength (l : List UInt8) : Nat × Nat × Nat := snFrom l.length 0 0 l

/-- what the decoder says is a good length -/
def DecGood (l : List UInt8) : Prop := 0 < (Lib.uvarintFrom 0 0 l).2 ∧ (Lib.uvarintFrom 0 0 l).2 ≤ 5 ∧ (Lib.uvarintFrom 0 0 l).1 < 4294967296

theorem sn_dec : ∀ (l : List UInt8) (tot i acc : Nat), i ≤ 5 → tot = i + l.length →
    ((snFrom tot i acc l).2.2 = 0 → Lib.uvarintFrom i acc l = ((snFrom tot i acc l).1, ((snFrom tot i acc l).2.1 : Int)) ∧ (snFrom tot i acc l).1 < 4294967296 ∧ 1 ≤ (snFrom tot i acc l).2.1 ∧ (snFrom tot i acc l).2.1 ≤ 5 ∧ (snFrom tot i acc l).2.1 ≤ tot) ∧
    ((snFrom tot i acc l).2.2 = 1 → (Lib.uvarintFrom i acc l).2 ≤ 0 ∨ 4294967296 ≤ (Lib.uvarintFrom i acc l).1) ∧
    ((snFrom tot i acc l).2.2 = 0 ∨ (snFrom tot i acc l).2.2 = 1 ∨ (snFrom tot i acc l).2.2 = 2)
  | [], tot, i, acc, hi, ht => by
    simp only [snFrom, Lib.uvarintFrom]
    split <;> simp
  | b :: r, tot, i, acc, hi, ht => by
    simp only [List.length_cons] at ht
    simp only [snFrom, Lib.uvarintFrom]
    rw [if_neg (show ¬ i = 10 by omega)]
    by_cases h5 : i = 5
    · rw [if_pos h5, if_pos (by omega)]
      simp
    · rw [if_neg h5]
      by_cases hb : b.toNat < 128
      · rw [if_pos hb, if_pos hb, if_neg (show ¬ (i = 9 ∧ 1 < b.toNat) by omega), Nat.mod_eq_of_lt hb]
        by_cases hg : 4294967296 ≤ acc + b.toNat * 2 ^ (7 * i)
        · rw [if_pos hg]
          simp [hg]
        · rw [if_neg hg]
          simp
          omega
      · rw [if_neg hb, if_neg hb]
        exact sn_dec r tot (i + 1) _ (by omega) (by omega)

theorem snLength_good (l : List UInt8) (h : (snLength l).2.2 = 0) :
    Lib.uvarintDec l = ((snLength l).1, ((snLength l).2.1 : Int)) ∧ (snLength l).1 < 4294967296 ∧ 1 ≤ (snLength l).2.1 ∧ (snLength l).2.1 ≤ 5 ∧ (snLength l).2.1 ≤ l.length :=
  (sn_dec l l.length 0 0 (by omega) (by omega)).1 h
theorem snLength_bad (l : List UInt8) (h : (snLength l).2.2 = 1) : (Lib.uvarintDec l).2 ≤ 0 ∨ 4294967296 ≤ (Lib.uvarintDec l).1 :=
  (sn_dec l l.length 0 0 (by omega) (by omega)).2.1 h
theorem snLength_class (l : List UInt8) : (snLength l).2.2 = 0 ∨ (snLength l).2.2 = 1 ∨ (snLength l).2.2 = 2 :=
  (sn_dec l l.length 0 0 (by omega) (by omega)).2.2
end Go.Proofs.YthiklljhhnedkaaDoor
