/-
  Whole structs stored and loaded, and results that are struct variables: laws for a walk. Conditions: the row is known whole.
-/
import Derived.Test.YtiobfiepapflaaaDoorSl
import Derived.Laws.Tables
import Derived.Laws.Rows
import Derived.Below
namespace Go.Proofs.YtiobfiepapflaaaDoor
open Go.RowKit

theorem Sl.next {w : World} {B g o n c : Nat} {l : List UInt8} (h : Sl w B (some ⟨g, o, none⟩) n c l) (i : Nat) (hi : i ≤ n) :
    Sl w B (if c = i then some ⟨g, o, none⟩ else some ⟨g, o + i, none⟩) (n - i) (c - i) (l.drop i) := by
  have hc := h.cap
  have hl := h.len
  have := h.cut (if c = i then some ⟨g, o, none⟩ else some ⟨g, o + i, none⟩) (i := i) (j := n) (c' := c - i) hi (Nat.le_refl _) (by omega) (by omega)
    (fun hlt => by rw [if_neg (by omega)]; simp [add_some])
  rwa [List.take_of_length_le (by omega)] at this
theorem Sl.nextA {w : World} {B n c : Nat} {A : Option Addr} {l : List UInt8} (h : Sl w B A n c l) (i : Nat) (hi : i ≤ n) :
    Sl w B (if c = i then A else Option.map (fun x => x.add i) A) (n - i) (c - i) (l.drop i) := by
  have hc := h.cap
  have hl := h.len
  have := h.cut (if c = i then A else Option.map (fun x => x.add i) A) (i := i) (j := n) (c' := c - i) hi (Nat.le_refl _) (by omega) (by omega)
    (fun hlt => by rw [if_neg (by omega)])
  rwa [List.take_of_length_le (by omega)] at this
theorem Sl.first {w : World} {B n c : Nat} {A : Option Addr} {l : List UInt8} (h : Sl w B A n c l) (i : Nat) (hi : i ≤ n) : Sl w B A i c (l.take i) := by
  have hc := h.cap
  have := h.cut A (i := 0) (j := i) (c' := c) (by omega) hi (by omega) (by omega) (fun h0 => by
    obtain ⟨g1, o1, rfl, _⟩ := h.at_ (by omega)
    simp [add_some])
  simpa using this
theorem alloc2_facts {wa : World} {C : Nat} (hC : wa.heap.size = C) (x y : Obj) :
    ((wa.alloc x).alloc y).heap[C]? = some x ∧ ((wa.alloc x).alloc y).heap[C + 1]? = some y ∧ (∀ k, k < C → ((wa.alloc x).alloc y).heap[k]? = wa.heap[k]?) ∧ Below C wa ((wa.alloc x).alloc y) := by
  subst hC
  have h1 : (wa.alloc x).heap.size = wa.heap.size + 1 := Array.size_push ..
  refine ⟨heap_alloc2_old .., heap_alloc2_new .., fun k hk => ?_, ?_⟩
  · exact (Below.heap_alloc (wa.alloc x) y k (by omega)).trans (Below.heap_alloc wa x k hk)
  · exact ((Below.refl _ wa).alloc (Nat.le_refl _) _).alloc (by omega) _

section
variable {P : Program}
theorem results_cell_tmp_row {fn : Func} {p u : Tmp} {ty : TypeId} (h : fn.results = #[.cell p ty, .tmp u]) (tmps : Array Value) (w : World) (g : Nat) (t : TypeId) (cs : Array Value) (fr : Nat × Nat) (d : TypeDesc)
    (hp : tmps.getD p undef = .pointer (some ⟨g, 0, none⟩)) (hg : w.heap[g]? = some (.cells cs t fr))
    (hu : P.underlying ty = some d) (hd : (match d with | .struct _ | .array _ _ => true | _ => false) = true) (hi : (P.info? ty).map (·.size) = some cs.size) :
    (results fn tmps).run P w = .ok (.tuple #[.agg cs, tmps.getD u undef]) w := by
  have hp' : tmps[p]?.getD undef = .pointer (some ⟨g, 0, none⟩) := by simpa using hp
  simp [results, h, hp', asAddr, run_loadVar_row w g t ty cs fr d hg hu hd hi]
theorem results_cell_tmp2_row {fn : Func} {p u v : Tmp} {ty : TypeId} (h : fn.results = #[.cell p ty, .tmp u, .tmp v]) (tmps : Array Value) (w : World) (g : Nat) (t : TypeId) (cs : Array Value) (fr : Nat × Nat) (d : TypeDesc)
    (hp : tmps.getD p undef = .pointer (some ⟨g, 0, none⟩)) (hg : w.heap[g]? = some (.cells cs t fr))
    (hu : P.underlying ty = some d) (hd : (match d with | .struct _ | .array _ _ => true | _ => false) = true) (hi : (P.info? ty).map (·.size) = some cs.size) :
    (results fn tmps).run P w = .ok (.tuple #[.agg cs, tmps.getD u undef, tmps.getD v undef]) w := by
  have hp' : tmps[p]?.getD undef = .pointer (some ⟨g, 0, none⟩) := by simpa using hp
  simp [results, h, hp', asAddr, run_loadVar_row w g t ty cs fr d hg hu hd hi]

/-- a whole struct is stored: what is known behind it -/
theorem wpList_store_all {ops : Array Oper} {rest : List Oper} {o : Oper} {a : Act} {w : World} {Q : Exit → Act → World → Prop} (hgd : o.guard = none) (ty : TypeId) (x y : Operand) (ho : o.op = .store ty x y)
    (g : Nat) (cells : Array Value) (hx : a.eval x = .pointer (some ⟨g, 0, none⟩)) (hy : a.eval y = .agg cells)
    (t : TypeId) (old : Array Value) (hg : Hid (w.heap[g]? = some (.cells old t (0, 0)))) (hi : (P.info? ty).map (·.size) = some cells.size)
    (hold : old.size = cells.size) (h1 : cells.all (·.oneCell') = true) (B : Nat) (hB : B ≤ g)
    (h : ∀ w', Hid (w'.heap[g]? = some (.cells cells t (0, 0))) → Below B w w' → Hid (∀ k, k ≠ g → w'.heap[k]? = w.heap[k]?) → wpList P ops Q rest (a.put o.dst undef) w') : wpList P ops Q (o :: rest) a w := by
  refine wpList_store_row hgd ty x y ho g cells hx hy t old hg.out hi hold h1 ?_
  refine h _ (Lib.hid ?_) ?_ (Lib.hid fun k hk => ?_)
  · simpa using setRow_heap w g _ _ t (0, 0) hg.out
  · exact ⟨rfl, rfl, rfl, by simp [World.setRow], fun k hk => setRow_other w g k cells (by omega)⟩
  · exact setRow_other w g k cells hk
end
end Go.Proofs.YtiobfiepapflaaaDoor
