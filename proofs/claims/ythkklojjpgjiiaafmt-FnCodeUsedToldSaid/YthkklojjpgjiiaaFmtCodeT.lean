/-
  FnCodeUsed: a prefix code can be used exactly for numbers of symbols that were there when it was built; else the estimate is -1. Conditions: none but that the two sentinels stand as the program lays them, which the card ties, and fmt's text, which is told.
-/
import Derived.Test.YthkklojjpgjiiaaFmtCards
import Derived.Test.YthkklojjpgjiiaaFmtTie
import Derived.Test.YthkklojjpgjiiaaFmtCodeT01
import Derived.Test.YthkklojjpgjiiaaFmtCodeT02
import Derived.Test.YthkklojjpgjiiaaFmtCodeT49
import Derived.SevenTiedAt
import Derived.ProofKit
import Derived.Stop.LaidErr
import Derived.Stop.JoinedAt
import Derived.Stop.JoinedTold
import Derived.Deep.DeepWitnessRef
namespace Go.Proofs.YthkklojjpgjiiaaFmt.fnCodeUsed
open Go.ChangeShapes Go.WideShapes Go.ChangeAt Go.RowKit
open Go.ChangeMaps (open_string shut_string)
open Go.Extern.Stop Go.Stop Go.Extern
set_option linter.unusedVariables false

theorem own : ownKnob Tryf.prog.godebug = none := by kernel_rfl
theorem laidOut : laidOutB Tryf.prog = true := by kernel_rfl
theorem stops : Tryf.prog.stops = ["fmt.errorf"] := by kernel_rfl
theorem stopKnobs : Tryf.prog.stopKnobs = [] := by kernel_rfl
theorem quiet (os : Os) : Stop.quiet Tryf.prog os := by
  intro k hk
  rw [stopKnobs] at hk
  cases hk
theorem varsOk : (Rows.fnCodeUsedSpec.vars.all fun n => varOk Tryf.prog n) = true := by kernel_rfl
theorem cellsE : Tryf.prog.cellsOf 109 = 1 := by kernel_rfl
theorem cellsS : Tryf.prog.cellsOf 9 = 1 := by kernel_rfl
theorem star : "*" ++ "errors.errorString" = "*errors.errorString" := by decide
theorem rowE (u : TypeId) (h : Tryf.prog.typeName? 3 u = some "*errors.errorString") : u = 107 :=
  typeName_ptr_named (nm := "errors.errorString") (by rw [star]; kernel_rfl) (by kernel_rfl) (by decide) u (by rw [star]; exact h)
theorem gVar0 : Tryf.prog.globalNamed "loop.example/pub-g01444/pub/compress/huff0.ErrUseRLE" = some 0 := by kernel_rfl
theorem tVar0 : (Tryf.prog.globals[0]?).map (·.type) = some 60 := by kernel_rfl
theorem rle {W : World} (h : laidMetH Tryf.prog Rows.fnCodeUsedRow.laid W) : ∃ p0, W.cell? ⟨0, 0, none⟩ = some (.iface 107 (.pointer p0)) := by
  have h0 : laidMet Tryf.prog Rows.fnCodeUsedRow.laid W := h
  obtain ⟨a, s, hv, hc, _, _⟩ := laid_sentinel h0 gVar0 tVar0 Tryf.underlying60 rowE Tryf.underlying107 Tryf.underlying109 rfl rfl Tryf.underlying9 cellsE cellsS
  exact ⟨some a, by simpa using World.var?_cell gVar0 hv 0⟩
theorem u16_of_wf {z : Int} (h : (Lit.int .u16 z).wf = true) : 0 ≤ z ∧ z ≤ 65535 := by
  have e1 : IntKind.u16.min = 0 := rfl
  have e2 : IntKind.u16.max = 65535 := rfl
  simpa [Lit.wf, e1, e2] using h
theorem sw_of_row {w : World} {a : Option Addr} {len cap : Nat} {zs : List Int}
    (h : (a = none ∧ len = 0 ∧ cap = 0 ∧ zs = []) ∨
      ∃ x, a = some x ∧ len ≤ cap ∧ cap ≤ maxLen ∧ zs.length = cap ∧ (∀ i, i < zs.length → w.cell? (x.add i) = some (.int .u16 (zs.getD i 0))) ∧ ∀ n ∈ zs, (Lit.int .u16 n).wf = true) :
    ∃ l, Sw w w.heap.size a len cap l := by
  rcases h with ⟨rfl, rfl, rfl, rfl⟩ | ⟨x, rfl, hl, hm, hz, hc, hw⟩
  · exact ⟨[], rfl, Nat.le_refl _, Nat.zero_le _, fun j => by simp, .inl rfl⟩
  · refine ⟨(zs.take len).map Int.toNat, by simp; omega, hl, hm, fun j => ?_, ?_⟩
    · rw [List.getD_eq_getElem?_getD]
      by_cases e : j < len
      · have hj' : j < zs.length := by omega
        have hz2 := u16_of_wf (hw _ (List.getElem_mem hj'))
        simp [e, List.getElem?_eq_getElem hj']
        omega
      · rw [List.getElem?_eq_none (by simp; omega)]
        decide
    · rcases Nat.eq_zero_or_pos len with e | e
      · exact .inl e
      · obtain ⟨g, o, s⟩ := x
        have h0 := hc 0 (by omega)
        have hs : s = none := by simpa [Addr.add] using World.cell?_spot h0
        subst hs
        have hb : g < w.heap.size := by simpa [Addr.add] using World.block_lt_of_cell? _ _ h0
        refine .inr ⟨g, o, rfl, hb, fun j hj => ?_⟩
        have hj' : j < zs.length := by omega
        have := hc j hj'
        rw [add_some] at this
        rw [this]
        have hz2 := u16_of_wf (hw _ (List.getElem_mem hj'))
        simp [List.getD_eq_getElem?_getD, List.getElem?_eq_getElem hj', hj]
        omega

set_option maxRecDepth 100000 in
theorem contract (F : Interp) (H : Type) (enc : TypeId × Value → H) (W : World) (hF : F.answers W.tape) (base : Nat) (args : Array Value) (ds gs : List (DataW H)) (before : List MemPlace)
    (hval : ∀ (j : Nat) t v, Tryf.f3.params[j]? = some t → args[j]? = some v → Value.okWide Tryf.prog W .any base t v)
    (hW : DataW.Whole enc Tryf.prog Tryf.f3.params.toList Rows.fnCodeUsedSpec.vars false W args.toList ds gs before) (hL : laidMetH Tryf.prog Rows.fnCodeUsedRow.laid W) :
    Calls Tryf.prog 3 args W fun e W' => ∃ v, e = .returned v ∧ Rows.fnCodeUsedSpec.post enc Tryf.prog Tryf.f3 false true false false W args v W' := by
  have hW' := hW
  obtain ⟨p, q, hA0, hV, rfl, hfz, hnd⟩ := hW
  have hA : DataW.TrodAll enc Tryf.prog W 0 (fun _ => true) true Tryf.f3.params.toList args.toList ds p := hA0
  rw [Tryf.params3] at hA hval
  obtain ⟨v0, vs0, d0, ds0, p0, q0, hargs, rfl, rfl, h0, r0⟩ := trodAll_cons hA
  obtain ⟨v1, vs1, d1, ds1, p1, q1, rfl, rfl, rfl, h1, r1⟩ := trodAll_cons r0
  obtain ⟨rfl, rfl, rfl⟩ := trodAll_nil r1
  obtain rfl : args = #[v0, v1] := by cases args; simp_all
  have hltq : ∀ x ∈ q, x.block < W.heap.size := fun x hx => by simpa using hW'.lt x (by simp [hx])
  obtain ⟨a0, len0, cap0, rfl⟩ := okWide_slice Tryf.underlying22 (hval 0 22 v0 rfl rfl)
  obtain ⟨a1, len1, cap1, rfl⟩ := okWide_slice Tryf.underlying22 (hval 1 22 v1 rfl rfl)
  have k0 := h0
  have k1 := h1
  have lt0 : ∀ x ∈ p0, x.block < W.heap.size := by obtain ⟨m, hm⟩ := k0; exact DataW.trod_lt m _ _ _ hm
  have lt1 : ∀ x ∈ p1, x.block < W.heap.size := by obtain ⟨m, hm⟩ := k1; exact DataW.trod_lt m _ _ _ hm
  obtain ⟨z0, w0⟩ := isRow_of Tryf.underlying22 Tryf.underlying37 (by kernel_rfl) h0
  obtain ⟨z1, w1⟩ := isRow_of Tryf.underlying22 Tryf.underlying37 (by kernel_rfl) h1
  clear hA0
  have walk : Calls Tryf.prog 3 #[.slice a0 len0 cap0, .slice a1 len1 cap1] W fun e w' => e = .returned (.bool true) ∧ Below W.heap.size W w' := by
    obtain ⟨l0, hl0⟩ := sw_of_row w0
    obtain ⟨l1, hl1⟩ := sw_of_row w1
    obtain ⟨p, hp⟩ := rle hL
    exact codeLaw_walk hl0 hl1 hp
  refine walk.mono fun e W' ⟨he, bel⟩ => ?_
  subst he
  have hVars := vars_below laidOut bel varsOk hV hltq
  obtain ⟨g0, g1, rfl⟩ := list2 (show gs.length = 2 from trodVars_len hV)
  exact ⟨_, rfl, _, _, _, [], _, q, hW', trodAll_mk1 (shut_bool Tryf.underlying4 _), (trodAll_cons_mk (Below.trod laidOut (by kernel_rfl) (of_decide_eq_true (by kernel_rfl)) k0 bel lt0) (trodAll_cons_mk (Below.trod laidOut (by kernel_rfl) (of_decide_eq_true (by kernel_rfl)) k1 bel lt1) trodAll_mk0)), hVars, bel.frame _, fun h => by cases h⟩

noncomputable def low : Nat := (World.holding Tryf.prog default ⟨#[], #[], []⟩).heap.size
/-- A world in which the sentinels lie as their initialisers lay them: the witness. -/
noncomputable def laidWorld (os : Os) : World :=
  let w0 := World.holding Tryf.prog os ⟨#[.cells #[.string { data := #[105, 110, 112, 117, 116, 32, 105, 115, 32, 115, 105, 110, 103, 108, 101, 32, 118, 97, 108, 117, 101, 32, 114, 101, 112, 101, 97, 116, 101, 100] }] 109, .cells #[.string { data := #[105, 110, 112, 117, 116, 32, 116, 111, 111, 32, 98, 105, 103] }] 109], #[], []⟩
  { w0 with heap := ((w0.heap.modify 0 fun | .cells _ t frozen => .cells #[.iface 107 (.pointer (some ⟨low + 0, 0, none⟩))] t frozen | o => o).modify 1 fun | .cells _ t frozen => .cells #[.iface 107 (.pointer (some ⟨low + 1, 0, none⟩))] t frozen | o => o) }

theorem laid_met (os : Os) : laidMetH Tryf.prog Rows.fnCodeUsedRow.laid ((laidWorld os).forCall (fun _ _ => 0) ⟨#[], #[.slice none 0 0, .slice none 0 0], []⟩).memory :=
  laidMet_of_run (ps := [.cell 0 0, .cell (low + 0) 0, .cell 1 0, .cell (low + 1) 0]) 8 (by kernel_rfl) (by kernel_rfl) (by kernel_rfl)
set_option maxRecDepth 100000 in
theorem lifted (os : Os) (started : os.Started) (H : Type) (enc : TypeId × Value → H) :
    ReturnsInTold none {} Tryf.checked os 3 .any Input.okWide ((OpenSpec.ofChange Rows.fnCodeUsedSpec).preRow enc Tryf.prog Tryf.f3 Rows.fnCodeUsedRow.domain false Rows.fnCodeUsedRow.laid)
      (fun F => ((OpenSpec.ofChange Rows.fnCodeUsedSpec).at F).post enc Tryf.prog Tryf.f3 false true false false) (aloneAtReturn Tryf.prog) nothingAlways := by
  refine returnsInTold_of_row (C := Tryf.checked) (s := OpenSpec.ofChange Rows.fnCodeUsedSpec) (by kernel_rfl) own started (by kernel_rfl) Tryf.func3
    (OpenSpec.witness_stopped_atRef (enc := enc) (C := Tryf.checked) false (laidWorld os) #[.slice none 0 0, .slice none 0 0] rfl (by kernel_rfl) (by kernel_rfl) (by kernel_rfl)
      (OpenSpec.preRow_of_B rfl 8 (by kernel_rfl) (by kernel_rfl) (laid_met os))) ?_
  intro F W base args ds gs before _ hF hval hW _ _ _ hL _
  exact contract F.told H enc W hF base args ds gs before hval hW hL

/-- THE CARD -/
theorem card : Rows.FnCodeUsedToldSaid :=
  Claim7.holds_of_told_tied_any_at .later 3 Tryf.f3 "fmt.errorf" [] [] _ _ _ _ _ (by kernel_rfl) rfl rfl rfl laidOut (by kernel_rfl) rfl ⟨rfl, rfl, rfl, rfl, rfl, rfl, rfl⟩ rfl rfl (by kernel_rfl) (by kernel_rfl) Tryf.func3 (by kernel_rfl)
    (of_decide_eq_true (by kernel_rfl)) (by unfold Func.isWrapper; first | (rw [if_pos (by decide +kernel)]; kernel_rfl) | (rw [if_neg (by decide +kernel)]; exact ⟨rfl, rfl⟩)) stops.symm rfl stopKnobs.symm (by kernel_rfl)
    (by kernel_rfl) (by kernel_rfl) (by kernel_rfl) (by kernel_rfl) (by kernel_rfl) (by kernel_rfl) (by kernel_rfl) (by kernel_rfl) (by kernel_rfl) rfl (by kernel_rfl) rfl rfl
    rfl rfl
    rfl (by kernel_rfl) (by kernel_rfl) (by kernel_rfl) (by decide) (by kernel_rfl) fnCodeUsed_row_tie
    (OpenClaim.moreEntering_of (by kernel_rfl) (by kernel_rfl) (by kernel_rfl) (by kernel_rfl) (by kernel_rfl) (by kernel_rfl) (by kernel_rfl) (by kernel_rfl) (by kernel_rfl) (by kernel_rfl))
    ⟨_, WideRow.started_initial, quiet _⟩
    (fun os started _ H enc _ => lifted os started H enc)
#print axioms card
end Go.Proofs.YthkklojjpgjiiaaFmt.fnCodeUsed
