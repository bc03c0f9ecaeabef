/-
  Plain lemmas for snapref.decode: what an element does to the result, and what a copy does to the row. No program in sight.
-/
import Derived.Test.YthiklljhhnedkaaDoorSnSpec
import Derived.Laws.CopyOwn
namespace Go.Proofs.YthiklljhhnedkaaDoor
open Go.RowKit

section
variable {q o z : List UInt8} {L k f p N off n s : Nat}
theorem snElem_small (h4 : f % 4 = 0) (h6 : f / 4 < 60) : snElem q k o f = snLit q (k + 1) (f / 4 + 1) o := by
  unfold snElem; rw [if_pos h4, if_pos h6]
theorem snElem_big (h4 : f % 4 = 0) (h6 : f / 4 = 59 + s) (hs : 0 < s) (hq : k + 1 + s ≤ q.length) : snElem q k o f = snLit q (k + 1 + s) (Lib.leNat ((q.drop (k + 1)).take s) + 1) o := by
  unfold snElem; rw [if_pos h4, if_neg (by omega), show f / 4 - 59 = s by omega, if_neg (by omega)]
theorem snElem_big_short (h4 : f % 4 = 0) (h6 : f / 4 = 59 + s) (hs : 0 < s) (hq : q.length < k + 1 + s) : snElem q k o f = .bad := by
  unfold snElem; rw [if_pos h4, if_neg (by omega), show f / 4 - 59 = s by omega, if_pos (by omega)]
theorem snElem_cpy (h4 : f % 4 ≠ 0) (hq : k + 1 + sizeOfTag (f % 4) ≤ q.length) : snElem q k o f = snCpy (k + 1 + sizeOfTag (f % 4)) (offOf q k f) (lenOf f) o := by
  unfold snElem; rw [if_neg h4, if_neg (by omega)]
theorem snElem_cpy_short (h4 : f % 4 ≠ 0) (hq : q.length < k + 1 + sizeOfTag (f % 4)) : snElem q k o f = .bad := by
  unfold snElem; rw [if_neg h4, if_pos (by omega)]

theorem snGo_lit_no (hk : k < q.length) (ho : o.length ≤ L) (he : snElem q k o (q.getD k 0).toNat = snLit q p N o) (hno : q.length < p + N ∨ L < o.length + N) : snGo q L k o = (none, 1) := by
  by_cases h : q.length < p + N
  · refine snGo_bad hk ho ?_
    rw [he]; unfold snLit; rw [if_pos h]
  · have h2 : snElem q k o (q.getD k 0).toNat = .next (p + N) (o ++ (q.drop p).take N) := by rw [he]; unfold snLit; rw [if_neg h]
    rw [snGo_next hk ho h2, snGo_long]
    simp
    omega
theorem snGo_lit_yes (hk : k < q.length) (ho : o.length ≤ L) (he : snElem q k o (q.getD k 0).toNat = snLit q p N o) (hp : p + N ≤ q.length) : snGo q L k o = snGo q L (p + N) (o ++ (q.drop p).take N) := by
  refine snGo_next hk ho ?_
  rw [he]; unfold snLit; rw [if_neg (by omega)]
theorem snGo_cpy_no (hk : k < q.length) (ho : o.length ≤ L) (he : snElem q k o (q.getD k 0).toNat = snCpy p off n o) (hR : (snGo q L k o).2 ≠ 2) (hno : off = 0 ∨ o.length < off ∨ L < o.length + n) : snGo q L k o = (none, 1) := by
  by_cases h : o.length < off
  · refine snGo_bad hk ho ?_
    rw [he]; unfold snCpy; rw [if_pos h]
  · by_cases h0 : off = 0
    · have h2 : snElem q k o (q.getD k 0).toNat = .opn := by rw [he]; unfold snCpy; rw [if_neg h, if_pos h0]
      rw [snGo_opn hk ho h2] at hR
      exact absurd rfl hR
    · have h2 : snElem q k o (q.getD k 0).toNat = .next p (copyN o off n) := by rw [he]; unfold snCpy; rw [if_neg h, if_neg h0]
      rw [snGo_next hk ho h2, snGo_long]
      rw [copyN_length]
      omega
theorem snGo_cpy_yes (hk : k < q.length) (ho : o.length ≤ L) (he : snElem q k o (q.getD k 0).toNat = snCpy p off n o) (h0 : 0 < off) (h1 : off ≤ o.length) : snGo q L k o = snGo q L p (copyN o off n) := by
  refine snGo_next hk ho ?_
  rw [he]; unfold snCpy; rw [if_neg (by omega), if_neg (by omega)]

/-- the row behind a copy of m at the end of o -/
theorem splice_row (m : List UInt8) : splice (Lib.byteCells (o ++ z)) o.length (Lib.byteCells m) = Lib.byteCells ((o ++ m) ++ z.drop m.length) := by
  unfold splice Lib.byteCells
  rw [List.length_map, ← List.map_take, ← List.map_drop, List.take_left, List.drop_append]
  simp
/-- one byte of a near copy -/
theorem near_row (i : Nat) (hi : i < n) (hz : n ≤ z.length) (h0 : 0 < off) (h1 : off ≤ o.length) :
    ((Lib.byteCells (copyN o off i ++ z.drop i)).toArray).setIfInBounds (o.length + i) (.int .u8 ((copyN o off i ++ z.drop i).getD (o.length - off + i) 0).toNat) = (Lib.byteCells (copyN o off (i + 1) ++ z.drop (i + 1))).toArray := by
  have hl := copyN_length i o off
  rw [copyN_snoc]
  have hg : (copyN o off i ++ z.drop i).getD (o.length - off + i) 0 = (copyN o off i).getD (o.length + i - off) 0 := by
    rw [List.getD_eq_getElem?_getD, List.getElem?_append_left (by omega), ← List.getD_eq_getElem?_getD, show o.length - off + i = o.length + i - off by omega]
  rw [hg]
  generalize (copyN o off i).getD (o.length + i - off) 0 = b
  obtain ⟨y, r, hr⟩ : ∃ y r, z.drop i = y :: r := by
    cases hd : z.drop i with
    | nil => have := congrArg List.length hd; simp at this; omega
    | cons y r => exact ⟨y, r, rfl⟩
  have hr1 : z.drop (i + 1) = r := by rw [← List.drop_drop, hr]; rfl
  rw [hr1, hr]
  generalize hC : copyN o off i = C
  rw [hC] at hl
  apply Array.ext'
  simp only [Lib.byteCells, List.setIfInBounds_toArray, List.append_assoc, List.map_append, List.map_cons, List.cons_append, List.nil_append]
  rw [List.set_append_right _ _ (by simp; omega)]
  simp [hl]
theorem near_cell (i : Nat) (w : World) (g : Nat) (t : TypeId) (hz : n ≤ z.length) (hi : i < n) (h1 : off ≤ o.length) (h : w.heap[g]? = some (.cells (Lib.byteCells (copyN o off i ++ z.drop i)).toArray t (0, 0))) :
    w.cell? ⟨g, o.length - off + i, none⟩ = some (.int .u8 ((copyN o off i ++ z.drop i).getD (o.length - off + i) 0).toNat) := by
  have hl := copyN_length i o off
  have hlt : o.length - off + i < (copyN o off i ++ z.drop i).length := by simp; omega
  rw [cell_of_row w g _ _ t (0, 0) h, List.getElem?_toArray]
  unfold Lib.byteCells
  rw [List.getElem?_map, List.getElem?_eq_getElem hlt, List.getD_eq_getElem?_getD, List.getElem?_eq_getElem hlt]
  rfl
end
end Go.Proofs.YthiklljhhnedkaaDoor
