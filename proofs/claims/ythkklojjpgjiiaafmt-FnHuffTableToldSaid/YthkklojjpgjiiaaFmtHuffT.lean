/-
  FnHuffTable: the tables of Huffman codes that the program reads and those that the reference reads are taken and refused alike. Conditions: none but that the two sentinels stand as the program lays them, which the card ties, and fmt's text, which is told.
-/
import Derived.Test.YthkklojjpgjiiaaFmtCards
import Derived.Test.YthkklojjpgjiiaaFmtTie
import Derived.Test.YthkklojjpgjiiaaFmtHuffT34
import Derived.Test.YthkklojjpgjiiaaFmtHuffT33
import Derived.Test.YthkklojjpgjiiaaFmtHuffT52
import Derived.SevenTiedAt
import Derived.ProofKit
import Derived.Stop.LaidErr
import Derived.Stop.JoinedAt
import Derived.Stop.JoinedTold
import Derived.Deep.DeepWitnessRef
namespace Go.Proofs.YthkklojjpgjiiaaFmt.fnHuffTable
open Go.ChangeShapes Go.WideShapes Go.ChangeAt Go.RowKit
open Go.ChangeMaps (open_string shut_string)
open Go.Extern.Stop Go.Stop Go.Extern
set_option linter.unusedVariables false

theorem own : ownKnob Tryf.prog.godebug = none := by kernel_rfl
theorem laidOut : laidOutB Tryf.prog = true := by kernel_rfl
theorem stops : Tryf.prog.stops = ["fmt.errorf"] := by kernel_rfl
theorem stopKnobs : Tryf.prog.stopKnobs = [] := by kernel_rfl
theorem quiet (os : Os) : Stop.quiet Tryf.prog os := by
  intro k hk
  rw [stopKnobs] at hk
  cases hk
theorem varsOk : (Rows.fnHuffTableSpec.vars.all fun n => varOk Tryf.prog n) = true := by kernel_rfl
theorem cellsE : Tryf.prog.cellsOf 109 = 1 := by kernel_rfl
theorem cellsS : Tryf.prog.cellsOf 9 = 1 := by kernel_rfl
theorem star : "*" ++ "errors.errorString" = "*errors.errorString" := by decide
theorem rowE (u : TypeId) (h : Tryf.prog.typeName? 3 u = some "*errors.errorString") : u = 107 :=
  typeName_ptr_named (nm := "errors.errorString") (by rw [star]; kernel_rfl) (by kernel_rfl) (by decide) u (by rw [star]; exact h)
theorem gVar0 : Tryf.prog.globalNamed "io.ErrUnexpectedEOF" = some 2 := by kernel_rfl
theorem tVar0 : (Tryf.prog.globals[2]?).map (·.type) = some 60 := by kernel_rfl
theorem eofB {W : World} (h : laidMetH Tryf.prog Rows.fnHuffTableRow.laid W) : EofB W W.heap.size := by
  have h0 : laidMet Tryf.prog Rows.fnHuffTableRow.laid W := h
  obtain ⟨a, s, hv, hc, _, _⟩ := laid_sentinel h0 gVar0 tVar0 Tryf.underlying60 rowE Tryf.underlying107 Tryf.underlying109 rfl rfl Tryf.underlying9 cellsE cellsS
  have h1 : W.cell? ⟨2, 0, none⟩ = some (.iface 107 (.pointer (some a))) := by simpa using World.var?_cell gVar0 hv 0
  exact ⟨Nat.le_refl _, block_lt_of_cell h1, a, s, block_lt_of_cell hc, h1, hc⟩

set_option maxRecDepth 100000 in
theorem contract (F : Interp) (H : Type) (enc : TypeId × Value → H) (W : World) (hF : F.answers W.tape) (base : Nat) (args : Array Value) (ds gs : List (DataW H)) (before : List MemPlace)
    (hval : ∀ (j : Nat) t v, Tryf.f4.params[j]? = some t → args[j]? = some v → Value.okWide Tryf.prog W .any base t v)
    (hW : DataW.Whole enc Tryf.prog Tryf.f4.params.toList Rows.fnHuffTableSpec.vars false W args.toList ds gs before) (hL : laidMetH Tryf.prog Rows.fnHuffTableRow.laid W) :
    Calls Tryf.prog 4 args W fun e W' => ∃ v, e = .returned v ∧ Rows.fnHuffTableSpec.post enc Tryf.prog Tryf.f4 false true false false W args v W' := by
  have hW' := hW
  obtain ⟨p, q, hA0, hV, rfl, hfz, hnd⟩ := hW
  have hA : DataW.TrodAll enc Tryf.prog W 0 (fun _ => true) true Tryf.f4.params.toList args.toList ds p := hA0
  rw [Tryf.params4] at hA hval
  obtain ⟨v0, vs0, d0, ds0, p0, q0, hargs, rfl, rfl, h0, r0⟩ := trodAll_cons hA
  obtain ⟨rfl, rfl, rfl⟩ := trodAll_nil r0
  obtain rfl : args = #[v0] := by cases args; simp_all
  have hltq : ∀ x ∈ q, x.block < W.heap.size := fun x hx => by simpa using hW'.lt x (by simp [hx])
  obtain ⟨a0, len0, cap0, rfl⟩ := okWide_slice Tryf.underlying28 (hval 0 28 v0 rfl rfl)
  have k0 := h0
  have lt0 : ∀ x ∈ p0, x.block < W.heap.size := by obtain ⟨m, hm⟩ := k0; exact DataW.trod_lt m _ _ _ hm
  obtain ⟨z0, w0⟩ := isRow_of Tryf.underlying28 Tryf.underlying5 (by kernel_rfl) h0
  clear hA0
  have walk : Calls Tryf.prog 4 #[.slice a0 len0 cap0] W fun e w' => e = .returned (.bool true) ∧ Below W.heap.size W w' := by
    obtain ⟨l, hl⟩ := sl_of_row w0
    exact huffLaw_walk F hF hl (eofB hL)
  refine walk.mono fun e W' ⟨he, bel⟩ => ?_
  subst he
  have hVars := vars_below laidOut bel varsOk hV hltq
  obtain ⟨g0, rfl⟩ := list1 (show gs.length = 1 from trodVars_len hV)
  exact ⟨_, rfl, _, _, _, [], _, q, hW', trodAll_mk1 (shut_bool Tryf.underlying4 _), (trodAll_cons_mk (Below.trod laidOut (by kernel_rfl) (of_decide_eq_true (by kernel_rfl)) k0 bel lt0) trodAll_mk0), hVars, bel.frame _, fun h => by cases h⟩

noncomputable def low : Nat := (World.holding Tryf.prog default ⟨#[], #[], []⟩).heap.size
/-- A world in which the sentinels lie as their initialisers lay them: the witness. -/
noncomputable def laidWorld (os : Os) : World :=
  let w0 := World.holding Tryf.prog os ⟨#[.cells #[.string { data := #[117, 110, 101, 120, 112, 101, 99, 116, 101, 100, 32, 69, 79, 70] }] 109, .cells #[.string { data := #[105, 110, 112, 117, 116, 32, 116, 111, 111, 32, 98, 105, 103] }] 109], #[], []⟩
  { w0 with heap := ((w0.heap.modify 2 fun | .cells _ t frozen => .cells #[.iface 107 (.pointer (some ⟨low + 0, 0, none⟩))] t frozen | o => o).modify 1 fun | .cells _ t frozen => .cells #[.iface 107 (.pointer (some ⟨low + 1, 0, none⟩))] t frozen | o => o) }

theorem laid_met (os : Os) : laidMetH Tryf.prog Rows.fnHuffTableRow.laid ((laidWorld os).forCall (fun _ _ => 0) ⟨#[], #[.slice none 0 0], []⟩).memory :=
  laidMet_of_run (ps := [.cell 2 0, .cell (low + 0) 0, .cell 1 0, .cell (low + 1) 0]) 8 (by kernel_rfl) (by kernel_rfl) (by kernel_rfl)
set_option maxRecDepth 100000 in
theorem lifted (os : Os) (started : os.Started) (H : Type) (enc : TypeId × Value → H) :
    ReturnsInTold none {} Tryf.checked os 4 .any Input.okWide ((OpenSpec.ofChange Rows.fnHuffTableSpec).preRow enc Tryf.prog Tryf.f4 Rows.fnHuffTableRow.domain false Rows.fnHuffTableRow.laid)
      (fun F => ((OpenSpec.ofChange Rows.fnHuffTableSpec).at F).post enc Tryf.prog Tryf.f4 false true false false) (aloneAtReturn Tryf.prog) nothingAlways := by
  refine returnsInTold_of_row (C := Tryf.checked) (s := OpenSpec.ofChange Rows.fnHuffTableSpec) (by kernel_rfl) own started (by kernel_rfl) Tryf.func4
    (OpenSpec.witness_stopped_atRef (enc := enc) (C := Tryf.checked) false (laidWorld os) #[.slice none 0 0] rfl (by kernel_rfl) (by kernel_rfl) (by kernel_rfl)
      (OpenSpec.preRow_of_B rfl 8 (by kernel_rfl) (by kernel_rfl) (laid_met os))) ?_
  intro F W base args ds gs before _ hF hval hW _ _ _ hL _
  exact contract F.told H enc W hF base args ds gs before hval hW hL

/-- THE CARD -/
theorem card : Rows.FnHuffTableToldSaid :=
  Claim7.holds_of_told_tied_any_at .later 4 Tryf.f4 "fmt.errorf" [] [] _ _ _ _ _ (by kernel_rfl) rfl rfl rfl laidOut (by kernel_rfl) rfl ⟨rfl, rfl, rfl, rfl, rfl, rfl, rfl⟩ rfl rfl (by kernel_rfl) (by kernel_rfl) Tryf.func4 (by kernel_rfl)
    (of_decide_eq_true (by kernel_rfl)) (by unfold Func.isWrapper; first | (rw [if_pos (by decide +kernel)]; kernel_rfl) | (rw [if_neg (by decide +kernel)]; exact ⟨rfl, rfl⟩)) stops.symm rfl stopKnobs.symm (by kernel_rfl)
    (by kernel_rfl) (by kernel_rfl) (by kernel_rfl) (by kernel_rfl) (by kernel_rfl) (by kernel_rfl) (by kernel_rfl) (by kernel_rfl) (by kernel_rfl) rfl (by kernel_rfl) rfl rfl
    rfl rfl
    rfl (by kernel_rfl) (by kernel_rfl) (by kernel_rfl) (by decide) (by kernel_rfl) fnHuffTable_row_tie
    (OpenClaim.moreEntering_of (by kernel_rfl) (by kernel_rfl) (by kernel_rfl) (by kernel_rfl) (by kernel_rfl) (by kernel_rfl) (by kernel_rfl) (by kernel_rfl) (by kernel_rfl) (by kernel_rfl))
    ⟨_, WideRow.started_initial, quiet _⟩
    (fun os started _ H enc _ => lifted os started H enc)
#print axioms card
end Go.Proofs.YthkklojjpgjiiaaFmt.fnHuffTable
