/-
  snapref.decode: the loop's body and its parts, taken out of the translation; what is told of a frame. Definitions and plain lemmas.
-/
import Derived.Test.YthiklljhhnedkaaDoorSnGoP
import Derived.Test.YthiklljhhnedkaaDoorSnLen
import Derived.Test.YthiklljhhnedkaaDoorQtail
import Derived.Deep.LoopGhost
import Derived.Outline
namespace Go.Proofs.YthiklljhhnedkaaDoor
open Go.RowKit

def firstLoop : Code → Option Code
  | .loop c => some c
  | .seq a b => match firstLoop a with
    | some c => some c
    | none => firstLoop b
  | .block _ c => firstLoop c
  | .scope c => firstLoop c
  | .cond _ a b => match firstLoop a with
    | some c => some c
    | none => firstLoop b
  | _ => none
def cL : Code → Code
  | .seq a _ => a
  | .cond _ a _ => a
  | .block _ c => c
  | .loop c => c
  | c => c
def cR : Code → Code
  | .seq _ b => b
  | .cond _ _ b => b
  | c => c
noncomputable def snBody : Code := ((Tryd.f17.body.bind firstLoop).getD .skip)
noncomputable def litCode : Code := cR (cR (cL (cR (cL (cR (cL (cL (cR snBody))))))))
noncomputable def cpyCode : Code := cR (cL (cR snBody))

/-- the frame: the row dst, the bytes src, d and s -/
def Fr (F : Act) (D : Option Addr) (L : Nat) (A : Option Addr) (n c d s : Nat) : Prop :=
  F.defers = [] ∧ F.tmps.size = 371 ∧ F.tmps.getD 0 undef = .slice D L L ∧ F.tmps.getD 1 undef = .slice A n c ∧ F.tmps.getD 5 undef = .int .i64 d ∧ F.tmps.getD 6 undef = .int .i64 s
/-- the loop's next round -/
def Nxt (q : List UInt8) (L g : Nat) (D A : Option Addr) (c : Nat) (w : World) (R : Option (List UInt8) × Nat) (k : Nat) (F : Act) (w' : World) : Prop :=
  ∃ (k' : Nat) (o z : List UInt8), Fr F D L A q.length c o.length k' ∧ k < k' ∧ k' ≤ q.length ∧ o.length + z.length = L ∧ (0 < L → w'.heap[g]? = some (.cells (Lib.byteCells (o ++ z)).toArray 5 (0, 0))) ∧ Below g w w' ∧ snGo q L k' o = R
/-- a refusal -/
def Bad (g : Nat) (w : World) (R : Option (List UInt8) × Nat) (F : Act) (w' : World) : Prop :=
  F.defers = [] ∧ F.tmps.size = 371 ∧ F.tmps.getD 4 undef = .int .i64 1 ∧ Below g w w' ∧ R = (none, 1)
theorem below_drewN {g : Nat} {w w' : World} (h : Below g w w') (n : Nat) : Below g w (w'.drewN n) := ⟨h.os, h.tape, h.output, h.size, h.block⟩
theorem byteCells_len (l : List UInt8) : (Lib.byteCells l).length = l.length := by simp [Lib.byteCells]
theorem byteCells_one {l : List UInt8} {v : Value} (h : v ∈ Lib.byteCells l) : v.oneCell' = true := by
  simp only [Lib.byteCells, List.mem_map] at h
  obtain ⟨b, _, rfl⟩ := h
  rfl
theorem sl_cells {wr : World} {g gq oq n c : Nat} {q : List UInt8} (h : Sl wr g (some ⟨gq, oq, none⟩) n c q) (p m j : Nat) (v : Value) (hv : (Lib.byteCells ((q.drop p).take m))[j]? = some v) : wr.cell? ((⟨gq, oq + p, none⟩ : Addr).add j) = some v := by
  unfold Lib.byteCells at hv
  rw [List.getElem?_map] at hv
  cases he : ((q.drop p).take m)[j]? with
  | none => rw [he] at hv; cases hv
  | some b =>
    rw [he] at hv
    injection hv with hv
    have hj : p + j < q.length := by
      have := List.getElem?_eq_some_iff.1 he
      obtain ⟨h1, _⟩ := this
      simp at h1
      omega
    have hb : q[p + j] = b := by
      rw [List.getElem?_take] at he
      split at he
      · rw [List.getElem?_drop, List.getElem?_eq_getElem hj] at he
        injection he
      · cases he
    obtain ⟨g', o', e, _, hc⟩ := h.at_ (by have := h.len; omega)
    injection e with e
    injection e with e1 e2
    subst e1
    subst e2
    rw [add_some, Nat.add_assoc, hc (p + j) hj, hb]
    exact congrArg some hv
theorem sl_cell {wr : World} {g gq oq n c : Nat} {q : List UInt8} (h : Sl wr g (some ⟨gq, oq, none⟩) n c q) {k : Nat} (hk : k < q.length) : wr.cell? ⟨gq, oq + k, none⟩ = some (.int .u8 ((q.getD k 0).toNat : Int)) := by
  obtain ⟨g', o', e, _, hc⟩ := h.at_ (by have := h.len; omega)
  injection e with e
  injection e with e1 e2
  subst e1
  subst e2
  rw [hc k hk, List.getD_eq_getElem?_getD, List.getElem?_eq_getElem hk]
  rfl
theorem leNat_take {q : List UInt8} {k s : Nat} (h : k < q.length) : Lib.leNat ((q.drop k).take (s + 1)) = (q.getD k 0).toNat + 256 * Lib.leNat ((q.drop (k + 1)).take s) := by
  rw [List.drop_eq_getElem_cons h, List.take_succ_cons, Lib.leNat, List.getD_eq_getElem?_getD, List.getElem?_eq_getElem h]
  rfl
theorem leNat_getD1 {q : List UInt8} {k : Nat} (h : k + 1 < q.length) : Lib.leNat ((q.drop (k + 1)).take 1) = (q.getD (k + 1) 0).toNat := by
  rw [leNat_take h]; simp [Lib.leNat]
theorem leNat_getD2 {q : List UInt8} {k : Nat} (h : k + 2 < q.length) : Lib.leNat ((q.drop (k + 1)).take 2) = (q.getD (k + 1) 0).toNat + (q.getD (k + 2) 0).toNat * 256 := by
  rw [leNat_take (show k + 1 < q.length by omega), leNat_take (show k + 2 < q.length by omega)]; simp [Lib.leNat]; omega
theorem leNat_getD3 {q : List UInt8} {k : Nat} (h : k + 3 < q.length) : Lib.leNat ((q.drop (k + 1)).take 3) = (q.getD (k + 1) 0).toNat + (q.getD (k + 2) 0).toNat * 256 + (q.getD (k + 3) 0).toNat * 65536 := by
  rw [leNat_take (show k + 1 < q.length by omega), leNat_take (show k + 2 < q.length by omega), leNat_take (show k + 3 < q.length by omega)]; simp [Lib.leNat]; omega
theorem leNat_getD4 {q : List UInt8} {k : Nat} (h : k + 4 < q.length) : Lib.leNat ((q.drop (k + 1)).take 4) = (q.getD (k + 1) 0).toNat + (q.getD (k + 2) 0).toNat * 256 + (q.getD (k + 3) 0).toNat * 65536 + (q.getD (k + 4) 0).toNat * 16777216 := by
  rw [leNat_take (show k + 1 < q.length by omega), leNat_take (show k + 2 < q.length by omega), leNat_take (show k + 3 < q.length by omega), leNat_take (show k + 4 < q.length by omega)]; simp [Lib.leNat]; omega
theorem row_cells {wr : World} {g t : Nat} {r : List UInt8} (h : wr.heap[g]? = some (.cells (Lib.byteCells r).toArray t (0, 0))) (p m j : Nat) (v : Value) (hv : (Lib.byteCells ((r.drop p).take m))[j]? = some v) : wr.cell? ((⟨g, p, none⟩ : Addr).add j) = some v := by
  rw [add_some, cell_of_row wr g _ _ t (0, 0) h, List.getElem?_toArray]
  rw [← hv]
  unfold Lib.byteCells
  have hj : j < m := by
    have := List.getElem?_eq_some_iff.1 hv
    obtain ⟨h1, _⟩ := this
    simp [Lib.byteCells] at h1
    omega
  rw [List.getElem?_map, List.getElem?_map, List.getElem?_take_of_lt hj, List.getElem?_drop]
theorem snGo_spl {o z : List UInt8} (M : List UInt8) : splice (Lib.byteCells (o ++ z)) o.length (Lib.byteCells M) = Lib.byteCells ((o ++ M) ++ z.drop M.length) := splice_row M
theorem and3_u8 (f : Nat) (h : f < 256) : bits .and .u8 (f : Int) 3 = ((f % 4 : Nat) : Int) := by
  have := (bits_nat .u8 8 (by decide) (fun n h0 h1 => by rw [IntKind.wrap_u8]; omega) f 3 (by omega) (by omega)).1
  rw [show f &&& 3 = f % 4 from Nat.and_two_pow_sub_one_eq_mod f 2] at this
  exact this
end Go.Proofs.YthiklljhhnedkaaDoor
