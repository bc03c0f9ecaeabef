/-
  FnHeaderWritten: the header of a frame that is written tells what it was given, and is read back. Conditions: none but that the two sentinels stand as the program lays them, which the card ties.
-/
import Derived.Test.YtiobfiepapflaaaDoorCards
import Derived.Test.YtiobfiepapflaaaDoorTie
import Derived.Test.YtiobfiepapflaaaDoorVars
import Derived.Test.YtiobfiepapflaaaDoorHdOpen
import Derived.Test.YtiobfiepapflaaaDoorHdLawW
import Derived.SevenTiedAt
import Derived.Stop.LaidErr
namespace Go.Proofs.YtiobfiepapflaaaDoor.fnHeaderWritten
open Go.ChangeShapes Go.WideShapes Go.ChangeAt Go.RowKit
open Go.ChangeMaps (open_string shut_string)
set_option linter.unusedVariables false

theorem own : ownKnob Tryd.prog.godebug = none := by kernel_rfl
theorem laidOut : laidOutB Tryd.prog = true := by kernel_rfl
theorem varsOk : (Rows.fnHeaderWrittenSpec.vars.all fun n => varOk Tryd.prog n) = true := by kernel_rfl
theorem cellsE : Tryd.prog.cellsOf 65 = 1 := by kernel_rfl
theorem cellsS : Tryd.prog.cellsOf 9 = 1 := by kernel_rfl
theorem star : "*" ++ "errors.errorString" = "*errors.errorString" := by decide
theorem rowE (u : TypeId) (h : Tryd.prog.typeName? 3 u = some "*errors.errorString") : u = 63 :=
  typeName_ptr_named (nm := "errors.errorString") (by rw [star]; kernel_rfl) (by kernel_rfl) (by decide) u (by rw [star]; exact h)
theorem gVar0 : Tryd.prog.globalNamed "io.ErrUnexpectedEOF" = some 0 := by kernel_rfl
theorem tVar0 : (Tryd.prog.globals[0]?).map (·.type) = some 48 := by kernel_rfl
theorem sentinel0 {W : World} (h : laidMetH Tryd.prog Rows.fnHeaderWrittenRow.laid W) : ∃ T a, W.cell? ⟨0, 0, none⟩ = some (.iface T (.pointer (some a))) := by
  have h0 : laidMet Tryd.prog Rows.fnHeaderWrittenRow.laid W := h
  obtain ⟨a, s, hv, _, _, _⟩ := laid_sentinel h0 gVar0 tVar0 Tryd.underlying48 rowE Tryd.underlying63 Tryd.underlying65 rfl rfl Tryd.underlying9 cellsE cellsS
  exact ⟨63, a, by simpa using World.var?_cell gVar0 hv 0⟩
theorem gVar1 : Tryd.prog.globalNamed "loop.example/pub-g01444/pub/compress/zstd.ErrMagicMismatch" = some 1 := by kernel_rfl
theorem tVar1 : (Tryd.prog.globals[1]?).map (·.type) = some 48 := by kernel_rfl
theorem sentinel1 {W : World} (h : laidMetH Tryd.prog Rows.fnHeaderWrittenRow.laid W) : ∃ T a, W.cell? ⟨1, 0, none⟩ = some (.iface T (.pointer (some a))) := by
  have h0 : laidMet Tryd.prog Rows.fnHeaderWrittenRow.laid W := h
  obtain ⟨a, s, hv, _, _, _⟩ := laid_sentinel (laidMet.tail h0) gVar1 tVar1 Tryd.underlying48 rowE Tryd.underlying63 Tryd.underlying65 rfl rfl Tryd.underlying9 cellsE cellsS
  exact ⟨63, a, by simpa using World.var?_cell gVar1 hv 0⟩

theorem contract (H : Type) (enc : TypeId × Value → H) (W : World) (base : Nat) (args : Array Value) (ds gs : List (DataW H)) (before : List MemPlace)
    (hval : ∀ (j : Nat) t v, Tryd.f5.params[j]? = some t → args[j]? = some v → Value.okWide Tryd.prog W .any base t v)
    (hW : DataW.Whole enc Tryd.prog Tryd.f5.params.toList Rows.fnHeaderWrittenSpec.vars false W args.toList ds gs before) (hL : laidMetH Tryd.prog Rows.fnHeaderWrittenRow.laid W) :
    Calls Tryd.prog 5 args W fun e W' => ∃ v, e = .returned v ∧ Rows.fnHeaderWrittenSpec.post enc Tryd.prog Tryd.f5 false true false false W args v W' := by
  have hW' := hW
  obtain ⟨p, q, hA0, hV, rfl, hfz, hnd⟩ := hW
  have hA : DataW.TrodAll enc Tryd.prog W 0 (fun _ => true) true Tryd.f5.params.toList args.toList ds p := hA0
  rw [Tryd.params5] at hA hval
  obtain ⟨v0, vs0, d0, ds0, p0, q0, hargs, rfl, rfl, h0, r0⟩ := trodAll_cons hA
  obtain ⟨rfl, rfl, rfl⟩ := trodAll_nil r0
  obtain rfl : args = #[v0] := by cases args; simp_all
  have hltq : ∀ x ∈ q, x.block < W.heap.size := fun x hx => by simpa using hW'.lt x (by simp [hx])
  have k0 := h0
  have lt0 : ∀ x ∈ p0, x.block < W.heap.size := by obtain ⟨m, hm⟩ := k0; exact DataW.trod_lt m _ _ _ hm
  obtain ⟨s, win, dict, has, size, skip, id, ssz, hs, ck, ok, last, comp, out, inn, rfl, wwin, wdict, wsize, wssz⟩ := openH (hval 0 28 v0 rfl rfl) h0
  clear hA0
  obtain ⟨T0, x0, hs0⟩ := sentinel0 hL
  obtain ⟨T1, x1, hs1⟩ := sentinel1 hL
  have walk : Calls Tryd.prog 5 #[.agg (ihA s win dict has size skip id ssz hs ck ok last comp out inn)] W fun e w' => e = .returned (.bool true) ∧ Below W.heap.size W w' := by
    exact writtenLaw_walk s win dict has size skip id ssz hs ck ok last comp out inn hs0 hs1 (wfU64 wwin) (wfU32 wdict) (wfU64 wsize) (wfU32 wssz)
  refine walk.mono fun e W' ⟨he, bel⟩ => ?_
  subst he
  have hVars := vars_below laidOut bel varsOk hV hltq
  obtain ⟨g0, rfl⟩ := list1 (show gs.length = 1 from trodVars_len hV)
  exact ⟨_, rfl, _, _, _, [], _, q, hW', trodAll_mk1 (shut_bool Tryd.underlying4 _), (trodAll_cons_mk (Below.trod laidOut (by kernel_rfl) (of_decide_eq_true (by kernel_rfl)) k0 bel lt0) trodAll_mk0), hVars, bel.frame _, fun h => by cases h⟩

noncomputable def low : Nat := (World.holding Tryd.prog default ⟨#[], #[], []⟩).heap.size
/-- A world in which the sentinels lie as their initialisers lay them: the witness. -/
noncomputable def laidWorld (os : Os) : World :=
  let w0 := World.holding Tryd.prog os ⟨#[.cells #[.string { data := #[117, 110, 101, 120, 112, 101, 99, 116, 101, 100, 32, 69, 79, 70] }] 65, .cells #[.string { data := #[105, 110, 118, 97, 108, 105, 100, 32, 105, 110, 112, 117, 116, 58, 32, 109, 97, 103, 105, 99, 32, 110, 117, 109, 98, 101, 114, 32, 109, 105, 115, 109, 97, 116, 99, 104] }] 65], #[], []⟩
  { w0 with heap := ((w0.heap.modify 0 fun | .cells _ t frozen => .cells #[.iface 63 (.pointer (some ⟨low + 0, 0, none⟩))] t frozen | o => o).modify 1 fun | .cells _ t frozen => .cells #[.iface 63 (.pointer (some ⟨low + 1, 0, none⟩))] t frozen | o => o) }

theorem laid_met (os : Os) : laidMetH Tryd.prog Rows.fnHeaderWrittenRow.laid ((laidWorld os).forCall (fun _ _ => 0) ⟨#[], #[.agg #[.bool false, .int .u64 0, .int .u32 0, .bool false, .int .u64 0, .bool false, .int .i64 0, .int .u32 0, .int .i64 0, .bool false, .bool false, .bool false, .bool false, .int .i64 0, .int .i64 0]], []⟩).memory :=
  laidMet_of_run (ps := [.cell 0 0, .cell (low + 0) 0, .cell 1 0, .cell (low + 1) 0]) 8 (by kernel_rfl) (by kernel_rfl) (by kernel_rfl)
set_option maxRecDepth 100000 in
theorem lifted (os : Os) (started : os.Started) (H : Type) (enc : TypeId × Value → H) (F : Stop.Interp) :
    ReturnsInHanded {} Tryd.checked os 5 .any ((OpenSpec.ofChange Rows.fnHeaderWrittenSpec).preRow enc Tryd.prog Tryd.f5 Rows.fnHeaderWrittenRow.domain false Rows.fnHeaderWrittenRow.laid) (((OpenSpec.ofChange Rows.fnHeaderWrittenSpec).at F).post enc Tryd.prog Tryd.f5 false true false false) := by
  skip
  refine returnsInHanded_of_row (C := Tryd.checked) (s := OpenSpec.ofChange Rows.fnHeaderWrittenSpec) own started (by kernel_rfl) Tryd.func5
    (witness_row_at (enc := enc) (C := Tryd.checked) false (laidWorld os) #[.agg #[.bool false, .int .u64 0, .int .u32 0, .bool false, .int .u64 0, .bool false, .int .i64 0, .int .u32 0, .int .i64 0, .bool false, .bool false, .bool false, .bool false, .int .i64 0, .int .i64 0]] rfl (by kernel_rfl) (by kernel_rfl) (by kernel_rfl)
      (OpenSpec.preRow_of_B rfl 8 (by kernel_rfl) (by kernel_rfl) (laid_met os))) ?_
  intro W base args ds gs before hval hW _ _ _ hL _ _
  exact contract H enc W base args ds gs before hval hW hL

theorem said : Rows.FnHeaderWrittenSaid :=
  OpenClaim.holds_of_cond 5 Tryd.f5 rfl rfl rfl rfl rfl rfl rfl ⟨rfl, rfl, rfl, rfl, rfl⟩ rfl rfl rfl rfl rfl (by kernel_rfl) Tryd.func5 (by kernel_rfl)
    (of_decide_eq_true (by kernel_rfl)) (by unfold Func.isWrapper; first | (rw [if_pos (by decide +kernel)]; kernel_rfl) | (rw [if_neg (by decide +kernel)]; exact ⟨rfl, rfl⟩))
    (fun os started H enc _ F => by rw [OpenClaim.pre_eq_preRow]; exact lifted os started H enc F)

/-- No parameter wants a stand-in; the program's own looks are off. -/
theorem plain (f : FuncId) (fn : Func) (hf : Tryd.pinned.checked.prog.funcNamed "loop.example/pub-g01444/laws.FnHeaderWritten" = some f) (hfn : Tryd.pinned.checked.prog.funcs[f]? = some fn) :
    false = Tryd.pinned.checked.prog.looks [] ∧ ∀ (j : Nat) t, fn.params[j]? = some t → Tryd.pinned.checked.prog.wantsStandIn t = false := by
  obtain rfl : f = 5 := Option.some.inj ((show Tryd.prog.funcNamed "loop.example/pub-g01444/laws.FnHeaderWritten" = some 5 by kernel_rfl).symm.trans hf) |>.symm
  obtain rfl : fn = Tryd.f5 := (Option.some.inj (Tryd.func5.symm.trans hfn)).symm
  refine ⟨by kernel_rfl, fun j t ht => ?_⟩
  rw [Tryd.params5] at ht
  have hm : t ∈ [28] := by simpa using Array.mem_of_getElem? ht
  have hall : ([28].all fun u => !Tryd.prog.wantsStandIn u) = true := by kernel_rfl
  exact (show Tryd.prog.wantsStandIn t = false by simpa using List.all_eq_true.1 hall t hm)

/-- THE CARD -/
theorem card : Rows.FnHeaderWrittenCardSaid :=
  Claim7.holds_tied_plain_at .later [] _ _ _ _ said (fun _ h => by cases h) (by kernel_rfl) (fun _ h => by cases h) fnHeaderWritten_row_tie rfl ⟨rfl, rfl⟩ (by kernel_rfl) rfl plain (by kernel_rfl)
#print axioms card
end Go.Proofs.YtiobfiepapflaaaDoor.fnHeaderWritten
