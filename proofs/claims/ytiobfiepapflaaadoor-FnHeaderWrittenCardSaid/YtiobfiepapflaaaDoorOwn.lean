/-
  Slices of bytes that the call itself made: what they hold, what an append and a store do to them. Plain lemmas; conditions: those of each.
-/
import Derived.Test.YtiobfiepapflaaaDoorRows
import Derived.Test.YtiobfiepapflaaaDoorSl
import Derived.Maps.AppendAt
import Derived.Deep.AppendLies
import Derived.Laws.OwnMore
import Derived.Laws.IdiomCopy
import Derived.Lib.UnsafeStr
namespace Go.Proofs.YtiobfiepapflaaaDoor
open Go.RowKit

theorem info_u8 : (Tryd.prog.info? 5).map (fun i => (i.zero, i.size, i.bytes)) = some (some (.int .u8 0), 1, 1) := by kernel_rfl

/-- The slice value v, made by the call (its block from 'base' on), holds the bytes l. -/
def Own (w : World) (base : Nat) (v : Value) (l : List UInt8) : Prop := w.ownsRow base 5 1 v l.length (Lib.byteCells l)

section
variable {w w' : World} {base : Nat} {v : Value} {l : List UInt8}

theorem Own.form (h : Own w base v l) : ∃ A c, v = .slice A l.length c ∧ Sl w w.heap.size A l.length c l ∧ (0 < l.length → ∃ g, A = some ⟨g, 0, none⟩ ∧ base ≤ g ∧ g < w.heap.size) := by
  rcases h.2 with ⟨rfl, h0⟩ | ⟨g, cap, cur, rfl, hb, hh, hc, hm, hs, ht⟩
  · refine ⟨none, 0, by rw [h0], ?_, fun hn => by omega⟩
    have : l = [] := List.eq_nil_of_length_eq_zero h0
    subst this
    exact Sl.nil _ _
  · have hg : g < w.heap.size := by
      rcases Nat.lt_or_ge g w.heap.size with hlt | hge
      · exact hlt
      · rw [Array.getElem?_eq_none hge] at hh; cases hh
    refine ⟨some ⟨g, 0, none⟩, cap, rfl, ⟨rfl, hc, hm, .inr ⟨g, 0, rfl, hg, fun j hj => ?_⟩⟩, fun _ => ⟨g, rfl, hb, hg⟩⟩
    have hat := World.ownsRow.cellAt (g := g) (cap := cap) h j (by omega)
    rw [Nat.zero_add, hat]
    simp [Lib.byteCells, hj]

theorem Own.drew (h : Own w base v l) : Own w.drew base v l := h
theorem Own.drewN (h : Own w base v l) (k : Nat) : Own (w.drewN k) base v l := h
theorem Own.alloc (h : Own w base v l) (o : Obj) : Own (w.alloc o) base v l := World.ownsRow.alloc h o
theorem Own.nil (w : World) (base : Nat) : Own w base (.slice none 0 0) [] := World.ownsRow_nil _ _ _ _
theorem Own.below (h : Own w base v l) (hb : Below w.heap.size w w') : Own w' base v l := by
  refine World.ownsRow.kept (row := none) h ⟨hb.os, hb.tape, hb.output, hb.size, fun i hi _ => hb.block i hi⟩ ?_
  rcases h.2 with ⟨rfl, h0⟩ | ⟨g, cap, cur, rfl, _⟩
  · exact .inl rfl
  · exact .inr (by simp [Value.ownBlock])
/-- an empty literal, []byte of nothing -/
theorem Own.lit (w : World) (hb : base ≤ w.heap.size) : Own (w.alloc (.cells #[] 5)) base (.slice (some ⟨w.heap.size, 0, none⟩) 0 0) [] :=
  World.ownsRow_lit w #[] 0 hb (by unfold maxLen; omega) rfl

/-- one byte is stored -/
theorem Own.set_ {g cap n : Nat} (h : Own w base (.slice (some ⟨g, 0, none⟩) n cap) l) (j : Nat) (b : UInt8) :
    Own (w.setCell ⟨g, j, none⟩ (.int .u8 b.toNat)) base (.slice (some ⟨g, 0, none⟩) n cap) (l.set j b) ∧ w.grownBy (w.setCell ⟨g, j, none⟩ (.int .u8 b.toNat)) (some g) := by
  have hn : n = l.length := by
    rcases h.2 with ⟨e, _⟩ | ⟨g, cap, cur, e, _⟩
    · cases e
    · injection e
  subst hn
  have h2 := World.ownsRow.stored (g := g) (cap := cap) h j (.int .u8 b.toNat)
  refine ⟨?_, h2.2⟩
  unfold Own
  rw [List.length_set]
  have e : Lib.byteCells (l.set j b) = (Lib.byteCells l).set j (.int .u8 b.toNat) := by simp [Lib.byteCells, List.map_set]
  rw [e]
  exact h2.1

/-- several bytes are stored one behind the other -/
def setAll : List UInt8 → Nat → List UInt8 → List UInt8
  | l, _, [] => l
  | l, i, b :: r => setAll (l.set i b) (i + 1) r
theorem setAll_length : ∀ (vs l : List UInt8) (i : Nat), (setAll l i vs).length = l.length
  | [], _, _ => rfl
  | b :: r, l, i => by rw [setAll, setAll_length r]; simp
theorem Own.setMany {g cap n : Nat} : ∀ (vs : List UInt8) (l : List UInt8) (w : World) (i : Nat), Own w base (.slice (some ⟨g, 0, none⟩) n cap) l →
    Own (w.setCells g i (Lib.byteCells vs)) base (.slice (some ⟨g, 0, none⟩) n cap) (setAll l i vs) ∧ w.grownBy (w.setCells g i (Lib.byteCells vs)) (some g)
  | [], _, w, _, h => ⟨h, World.grownBy.refl w _⟩
  | b :: r, l, w, i, h => by
    have h1 := h.set_ i b
    have h2 := Own.setMany r (l.set i b) _ (i + 1) h1.1
    exact ⟨h2.1, h1.2.trans h2.2⟩
end

section
variable {P : Program} (w : World)
theorem run_append_nothing (base : Nat) (t ty e : TypeId) (i : TypeInfo) (ht : P.underlying t = some (.slice e)) (hi : P.info? e = some i)
    (v : Value) (l : List UInt8) (hown : w.ownsRow base e 1 v l.length (Lib.byteCells l)) (c : Nat) : (Builtin.append_ #[t, t] ty #[v, .slice none 0 c]).run P w = .ok v w := by
  rcases hown.2 with ⟨rfl, h0⟩ | ⟨g, cap, cur, rfl, _, _, hnc, _⟩
  · simp [Builtin.append_, run_underlying ht, sizeOf, typeInfo, hi, Builtin.lenOf, Builtin.firstCells]
  · simp [Builtin.append_, run_underlying ht, sizeOf, typeInfo, hi, Builtin.lenOf, Builtin.firstCells, hnc, storeCells]

theorem byteCells_append (a b : List UInt8) : Lib.byteCells (a ++ b) = Lib.byteCells a ++ Lib.byteCells b := by simp [Lib.byteCells]

theorem run_append_sl (base : Nat) (ty : TypeId) (v : Value) (l l2 : List UInt8) (hown : Own w base v l) (B : Nat) (A : Option Addr) (n c : Nat) (hs : Sl w B A n c l2)
    (hbytes : l.length + n ≤ 140737488355328) (hbase : base ≤ w.heap.size) :
    ∃ v' w', (Builtin.append_ #[22, 22] ty #[v, .slice A n c]).run Tryd.prog w = .ok v' w' ∧ Own w' base v' (l ++ l2) ∧ w.grownBy w' v.ownBlock ∧
      (v'.ownBlock = v.ownBlock ∨ v'.ownBlock = some w.heap.size) := by
  obtain ⟨i, hi, hz, hsz, hby⟩ := info_parts info_u8
  obtain rfl := hs.len
  rcases A with _ | ad
  · have h0 : l2.length = 0 := by
      rcases hs.2.2.2 with e | ⟨g, o, e, _⟩
      · exact e
      · cases e
    have : l2 = [] := List.eq_nil_of_length_eq_zero h0
    subst this
    refine ⟨v, w, run_append_nothing w base _ ty _ i Tryd.underlying22 hi v l hown c, by simpa using hown, World.grownBy.refl w _, .inl rfl⟩
  · have hnews : ∀ j u, (Lib.byteCells l2)[j]? = some u → w.cell? (ad.add j) = some u := by
      intro j u hu
      rcases hs.2.2.2 with e | ⟨g, o, e, hb, hc⟩
      · have : l2 = [] := List.eq_nil_of_length_eq_zero e
        subst this
        simp [Lib.byteCells] at hu
      · injection e with e
        subst e
        have hj : j < l2.length := by
          have := List.getElem?_eq_some_iff.1 hu
          obtain ⟨h, _⟩ := this
          simpa [Lib.byteCells] using h
        rw [add_some, hc j hj]
        simpa [Lib.byteCells, hj] using hu
    obtain ⟨v', w', hrun, h2, h3, _, h5⟩ := run_append_own_at (P := Tryd.prog) w base 22 ty 5 i _ 1 1 Tryd.underlying22 hi hz hsz hby rfl (by omega) v l.length (Lib.byteCells l) hown ad l2.length c
      (Lib.byteCells l2) (by simp [Lib.byteCells]) hnews (by intro u hu; simp only [Lib.byteCells, List.mem_map] at hu; obtain ⟨b, _, rfl⟩ := hu; rfl) (by unfold maxLen; omega) (by omega) hbase
    refine ⟨v', w', hrun, ?_, h3, h5⟩
    unfold Own
    rw [List.length_append, byteCells_append]
    exact h2

theorem Own.place {w : World} {base : Nat} {v : Value} {l : List UInt8} (h : Own w base v l) : ∀ k, v.ownBlock = some k → base ≤ k := fun k hk => (World.ownsRow.lt h k hk).1

/-- What an append of bytes leaves. -/
structure App (w w' : World) (base : Nat) (v : Value) (A' : Option Addr) (n' c' : Nat) (l' : List UInt8) : Prop where
  own : Own w' base (.slice A' n' c') l'
  sl : Sl w' w'.heap.size A' n' c' l'
  bel : Below base w w'
  le : base ≤ w'.heap.size
  grown : w.grownBy w' v.ownBlock
  at_ : 0 < n' → ∃ g, A' = some ⟨g, 0, none⟩ ∧ base ≤ g ∧ g < w'.heap.size

theorem wp_append_sl {o : Oper} {a : Act} {K : Act → World → Prop} {Q : Exit → Act → World → Prop} (s x : Operand)
    (ho : o.op = .call { callee := .builtin .append, args := #[s, x], argTypes := #[22, 22] })
    (base : Nat) (v : Value) (l l2 : List UInt8) (hs : a.eval s = v) (hown : Own w base v l) (B : Nat) (A : Option Addr) (n c : Nat) (hx : a.eval x = .slice A n c) (hsl : Sl w B A n c l2)
    (hbytes : l.length + n ≤ 140737488355328) (hbase : base ≤ w.heap.size) (n' : Nat) (l' : List UInt8) (hn' : l.length + n = n') (hl' : l ++ l2 = l')
    (h : ∀ A' c' w', App w w' base v A' n' c' l' → K (a.put o.dst (.slice A' n' c')) w') : o.wp Tryd.prog a w K Q := by
  obtain ⟨v', w', hrun, h2, h3, h4⟩ := run_append_sl w base o.type v l l2 hown B A n c hsl hbytes hbase
  subst hl'
  have hlen : (l ++ l2).length = n' := by have := hsl.len; simp; omega
  obtain ⟨A', c', hv', hsl', hat'⟩ := h2.form
  rw [hlen] at hv' hsl' hat'
  subst hv'
  unfold Oper.wp execOp
  simp only [ho, resolve, invoke, builtin, Sem.run_bind, Sem.run_pure, Result.andThen_ok, List.map_toArray, List.map_cons, List.map_nil, hs, hx, hrun]
  exact h A' c' w' ⟨h2, hsl', (Below.refl _ _).grown h3 hbase hown.place, Nat.le_trans hbase h3.size, h3, hat'⟩

theorem wpList_append_sl {ops : Array Oper} {rest : List Oper} {o : Oper} {a : Act} {Q : Exit → Act → World → Prop} (hgd : o.guard = none) (s x : Operand)
    (ho : o.op = .call { callee := .builtin .append, args := #[s, x], argTypes := #[22, 22] })
    (base : Nat) (v : Value) (l l2 : List UInt8) (hs : a.eval s = v) (hown : Own w base v l) (B : Nat) (A : Option Addr) (n c : Nat) (hx : a.eval x = .slice A n c) (hsl : Sl w B A n c l2)
    (hbytes : l.length + n ≤ 140737488355328) (hbase : base ≤ w.heap.size) (n' : Nat) (l' : List UInt8) (hn' : l.length + n = n') (hl' : l ++ l2 = l')
    (h : ∀ A' c' w', App w w' base v A' n' c' l' → wpList Tryd.prog ops Q rest (a.put o.dst (.slice A' n' c')) w') : wpList Tryd.prog ops Q (o :: rest) a w :=
  wpList_plain hgd fun _ hK => wp_append_sl w s x ho base v l l2 hs hown B A n c hx hsl hbytes hbase n' l' hn' hl' fun A' c' w' h2 => hK _ _ (h A' c' w' h2)
end
end Go.Proofs.YtiobfiepapflaaaDoor
