/-
  The named variables and the arguments read behind a call that writes nothing old as they read before it. Plain lemmas on the frame of a statement; conditions: those of each.
-/
import Derived.Test.YthkklojjpgjiiaaFmtRows
import Derived.WalkKit
import Derived.ProofKit
import Derived.OpenShut
import Derived.ShutString
import Derived.ChangeOld
import Derived.Below
import Derived.Deep.DeepHandedRow
import Derived.Lib.LaidTab
namespace Go.Proofs.YthkklojjpgjiiaaFmt
open Go.ChangeShapes Go.WideShapes Go.ChangeAt Go.RowKit

def varOk (P : Program) (n : String) : Bool :=
  match P.globalNamed n with
  | some g => match (P.globals[g]?).map (·.type) with
    | some t => P.readableRec t && decide (t < P.types.size)
    | none => false
  | none => false

theorem vars_below {H : Type} {enc : TypeId × Value → H} {P : Program} {W W' : World} (hl : laidOutB P = true) (hb : Below W.heap.size W W') :
    ∀ {ns : List String} {gs : List (DataW H)} {ps : List MemPlace}, (ns.all fun n => varOk P n) = true → DataW.TrodVars enc P W (fun _ => true) ns gs ps → (∀ x ∈ ps, x.block < W.heap.size) →
      DataW.TrodVars enc P W' (fun b => decide (b < W.heap.size)) ns gs ps
  | [], [], ps, _, h, _ => h
  | [], _ :: _, _, _, h, _ => h.elim
  | _ :: _, [], _, _, h, _ => h.elim
  | n :: ns, d :: ds, ps, hk, h, hlt => by
    obtain ⟨g, t, cs, fuel, p, q, hg, ht, hv, hd, hrest, rfl⟩ := h
    rw [List.all_cons, Bool.and_eq_true] at hk
    have hok : P.readableRec t = true ∧ t < P.types.size := by
      have h1 := hk.1
      unfold varOk at h1
      rw [hg] at h1
      simp only [ht, Bool.and_eq_true, decide_eq_true_eq] at h1
      exact h1
    have hgb : g < W.heap.size := by
      have h1 := hv
      unfold World.var? at h1
      simp only [hg, Option.bind_some] at h1
      rcases Nat.lt_or_ge g W.heap.size with hlt | hge
      · exact hlt
      · rw [Array.getElem?_eq_none hge] at h1; cases h1
    have hv' : W'.var? P n = some cs := by
      unfold World.var? at hv ⊢
      simp only [hg, Option.bind_some] at hv ⊢
      rw [hb.block g hgb]
      exact hv
    refine ⟨g, t, cs, fuel, p, q, hg, ht, hv', ?_, vars_below hl hb hk.2 hrest (fun x hx => hlt x (by simp [hx])), rfl⟩
    exact DataW.trod_stays (kids_book hl hok.1) (book_sized hok.1) (fun h => by cases h) ⟨hok.2, book_self t⟩ hd (fun x hx => hb.same (hlt x (by simp [hx]))) (fun x hx => by simpa using hlt x (by simp [hx]))

theorem trodVars_len {H : Type} {enc : TypeId × Value → H} {P : Program} {W : World} {sp : Nat → Bool} : ∀ {ns : List String} {gs : List (DataW H)} {ps : List MemPlace}, DataW.TrodVars enc P W sp ns gs ps → gs.length = ns.length
  | [], [], _, _ => rfl
  | [], _ :: _, _, h => h.elim
  | _ :: _, [], _, h => h.elim
  | _ :: ns, _ :: ds, _, h => by
    obtain ⟨_, _, _, _, _, _, _, _, _, _, hrest, _⟩ := h
    simp [trodVars_len hrest]
theorem list1 {α : Type} {l : List α} (h : l.length = 1) : ∃ a, l = [a] := by
  match l, h with
  | [a], _ => exact ⟨a, rfl⟩
theorem list2 {α : Type} {l : List α} (h : l.length = 2) : ∃ a b, l = [a, b] := by
  match l, h with
  | [a, b], _ => exact ⟨a, b, rfl⟩
theorem list3 {α : Type} {l : List α} (h : l.length = 3) : ∃ a b c, l = [a, b, c] := by
  match l, h with
  | [a, b, c], _ => exact ⟨a, b, c, rfl⟩

/-- What a walk is told of a slice of integers that came in: it is nil, or it leads to a row of numbers of which the first are its elements. -/
def IsRow (k : IntKind) (w : World) (a : Option Addr) (len cap : Nat) (zs : List Int) : Prop :=
  (a = none ∧ len = 0 ∧ cap = 0 ∧ zs = []) ∨
  ∃ x, a = some x ∧ len ≤ cap ∧ cap ≤ maxLen ∧ zs.length = cap ∧ (∀ i, i < zs.length → w.cell? (x.add i) = some (.int k (zs.getD i 0))) ∧ ∀ n ∈ zs, (Lit.int k n).wf = true

theorem isRow_of {H : Type} {enc : TypeId × Value → H} {P : Program} {W : World} {T E : TypeId} {k : IntKind} {a : Option Addr} {len cap : Nat} {d : DataW H} {p : List MemPlace} (hT : P.underlying T = some (.slice E)) (hE : P.underlying E = some (.int k)) (hc : P.cellsOf E = 1)
    (h : DataW.Trod enc P W 0 (fun _ => true) true T (.slice a len cap) d p) : ∃ zs, IsRow k W a len cap zs := by
  obtain ⟨fuel, hf⟩ := h
  rcases open_ints hT hE hc hf with ⟨hcs, _⟩ | ⟨x, l, c, zs, hcs, _, hl, hm, hz, _, hcell, hwz⟩
  · simp [Value.cells] at hcs
    obtain ⟨rfl, rfl, rfl⟩ := hcs
    exact ⟨[], .inl ⟨rfl, rfl, rfl, rfl⟩⟩
  · simp [Value.cells] at hcs
    obtain ⟨rfl, rfl, rfl⟩ := hcs
    exact ⟨zs, .inr ⟨_, rfl, hl, hm, by simpa using hz, hcell, hwz⟩⟩
end Go.Proofs.YthkklojjpgjiiaaFmt
