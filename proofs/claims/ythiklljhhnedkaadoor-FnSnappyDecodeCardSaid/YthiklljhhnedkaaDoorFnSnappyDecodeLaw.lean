/-
  FnSnappyDecode: for every slice of bytes a block is decompressed as the reference decompresses it, and refused where it refuses. Conditions: none but that the sentinels stand as the program lays them, which the card ties.
-/
import Derived.Test.YthiklljhhnedkaaDoorCards
import Derived.Test.YthiklljhhnedkaaDoorTie
import Derived.Test.YthiklljhhnedkaaDoorVars
import Derived.Test.YthiklljhhnedkaaDoorSnDecW
import Derived.SevenTiedAt
import Derived.Stop.LaidErr
namespace Go.Proofs.YthiklljhhnedkaaDoor.fnSnappyDecode
open Go.ChangeShapes Go.WideShapes Go.ChangeAt Go.RowKit
open Go.ChangeMaps (open_string shut_string)
set_option linter.unusedVariables false

theorem own : ownKnob Tryd.prog.godebug = none := by kernel_rfl
theorem laidOut : laidOutB Tryd.prog = true := by kernel_rfl
theorem varsOk : (Rows.fnSnappyDecodeSpec.vars.all fun n => varOk Tryd.prog n) = true := by kernel_rfl
theorem cellsE : Tryd.prog.cellsOf 74 = 1 := by kernel_rfl
theorem cellsS : Tryd.prog.cellsOf 9 = 1 := by kernel_rfl
theorem star : "*" ++ "errors.errorString" = "*errors.errorString" := by decide
theorem rowE (u : TypeId) (h : Tryd.prog.typeName? 3 u = some "*errors.errorString") : u = 55 :=
  typeName_ptr_named (nm := "errors.errorString") (by rw [star]; kernel_rfl) (by kernel_rfl) (by decide) u (by rw [star]; exact h)
theorem gErrCorrupt : Tryd.prog.globalNamed "loop.example/pub-g01444/pub/compress/inner/snapref.ErrCorrupt" = some 1 := by kernel_rfl
theorem tErrCorrupt : (Tryd.prog.globals[1]?).map (·.type) = some 35 := by kernel_rfl
theorem sentinel_ErrCorrupt {W : World} (h : laidMetH Tryd.prog Rows.fnSnappyDecodeRow.laid W) : ∃ E, Sentinel W 1 E := by
  have h0 : laidMet Tryd.prog Rows.fnSnappyDecodeRow.laid W := h
  obtain ⟨a, s, hv, _, _, _⟩ := laid_sentinel h0 gErrCorrupt tErrCorrupt Tryd.underlying35 rowE Tryd.underlying55 Tryd.underlying74 rfl rfl Tryd.underlying9 cellsE cellsS
  exact ⟨_, by simpa using World.var?_cell gErrCorrupt hv 0, 55, a, rfl⟩
theorem gErrTooLarge : Tryd.prog.globalNamed "loop.example/pub-g01444/pub/compress/inner/snapref.ErrTooLarge" = some 2 := by kernel_rfl
theorem tErrTooLarge : (Tryd.prog.globals[2]?).map (·.type) = some 35 := by kernel_rfl
theorem sentinel_ErrTooLarge {W : World} (h : laidMetH Tryd.prog Rows.fnSnappyDecodeRow.laid W) : ∃ E, Sentinel W 2 E := by
  have h0 : laidMet Tryd.prog Rows.fnSnappyDecodeRow.laid W := h
  obtain ⟨a, s, hv, _, _, _⟩ := laid_sentinel (laidMet.tail h0) gErrTooLarge tErrTooLarge Tryd.underlying35 rowE Tryd.underlying55 Tryd.underlying74 rfl rfl Tryd.underlying9 cellsE cellsS
  exact ⟨_, by simpa using World.var?_cell gErrTooLarge hv 0, 55, a, rfl⟩
theorem gerrUnsupportedLiteralLength : Tryd.prog.globalNamed "loop.example/pub-g01444/pub/compress/inner/snapref.errUnsupportedLiteralLength" = some 0 := by kernel_rfl
theorem terrUnsupportedLiteralLength : (Tryd.prog.globals[0]?).map (·.type) = some 35 := by kernel_rfl
theorem sentinel_errUnsupportedLiteralLength {W : World} (h : laidMetH Tryd.prog Rows.fnSnappyDecodeRow.laid W) : ∃ E, Sentinel W 0 E := by
  have h0 : laidMet Tryd.prog Rows.fnSnappyDecodeRow.laid W := h
  obtain ⟨a, s, hv, _, _, _⟩ := laid_sentinel (laidMet.tail (laidMet.tail h0)) gerrUnsupportedLiteralLength terrUnsupportedLiteralLength Tryd.underlying35 rowE Tryd.underlying55 Tryd.underlying74 rfl rfl Tryd.underlying9 cellsE cellsS
  exact ⟨_, by simpa using World.var?_cell gerrUnsupportedLiteralLength hv 0, 55, a, rfl⟩

theorem contract (H : Type) (enc : TypeId × Value → H) (W : World) (base : Nat) (args : Array Value) (ds gs : List (DataW H)) (before : List MemPlace)
    (hval : ∀ (j : Nat) t v, Tryd.f4.params[j]? = some t → args[j]? = some v → Value.okWide Tryd.prog W .any base t v)
    (hW : DataW.Whole enc Tryd.prog Tryd.f4.params.toList Rows.fnSnappyDecodeSpec.vars false W args.toList ds gs before) (hL : laidMetH Tryd.prog Rows.fnSnappyDecodeRow.laid W) :
    Calls Tryd.prog 4 args W fun e W' => ∃ v, e = .returned v ∧ Rows.fnSnappyDecodeSpec.post enc Tryd.prog Tryd.f4 false true false false W args v W' := by
  have hW' := hW
  obtain ⟨p, q, hA0, hV, rfl, hfz, hnd⟩ := hW
  have hA : DataW.TrodAll enc Tryd.prog W 0 (fun _ => true) true Tryd.f4.params.toList args.toList ds p := hA0
  rw [Tryd.params4] at hA hval
  obtain ⟨v0, vs0, d0, ds0, p0, q0, hargs, rfl, rfl, h0, r0⟩ := trodAll_cons hA
  obtain ⟨rfl, rfl, rfl⟩ := trodAll_nil r0
  obtain rfl : args = #[v0] := by cases args; simp_all
  have hltq : ∀ x ∈ q, x.block < W.heap.size := fun x hx => by simpa using hW'.lt x (by simp [hx])
  obtain ⟨a0, len0, cap0, rfl⟩ := okWide_slice Tryd.underlying22 (hval 0 22 v0 rfl rfl)
  have k0 := h0
  have lt0 : ∀ x ∈ p0, x.block < W.heap.size := by obtain ⟨m, hm⟩ := k0; exact DataW.trod_lt m _ _ _ hm
  obtain ⟨z0, w0⟩ := isRow_of Tryd.underlying22 Tryd.underlying5 (by kernel_rfl) h0
  clear hA0
  obtain ⟨E, hE⟩ := sentinel_ErrCorrupt hL
  have walk : Calls Tryd.prog 4 #[.slice a0 len0 cap0] W fun e w' => e = .returned (.bool true) ∧ Below W.heap.size W w' := by
    obtain ⟨l, hl⟩ := sl_of_row w0
    exact decodeLaw_walk _ _ _ l W E hl hE
  refine walk.mono fun e W' ⟨he, bel⟩ => ?_
  subst he
  have hVars := vars_below laidOut bel varsOk hV hltq
  obtain ⟨g0, g1, g2, rfl⟩ := list3 (show gs.length = 3 from trodVars_len hV)
  exact ⟨_, rfl, _, _, _, [], _, q, hW', trodAll_mk1 (shut_bool Tryd.underlying4 _), (trodAll_cons_mk (Below.trod laidOut (by kernel_rfl) (of_decide_eq_true (by kernel_rfl)) k0 bel lt0) trodAll_mk0), hVars, bel.frame _, fun h => by cases h⟩

noncomputable def low : Nat := (World.holding Tryd.prog default ⟨#[], #[], []⟩).heap.size
/-- A world in which the sentinels lie as their initialisers lay them: the witness. -/
noncomputable def laidWorld (os : Os) : World :=
  let w0 := World.holding Tryd.prog os ⟨#[.cells #[.string { data := #[115, 110, 97, 112, 112, 121, 58, 32, 99, 111, 114, 114, 117, 112, 116, 32, 105, 110, 112, 117, 116] }] 74, .cells #[.string { data := #[115, 110, 97, 112, 112, 121, 58, 32, 100, 101, 99, 111, 100, 101, 100, 32, 98, 108, 111, 99, 107, 32, 105, 115, 32, 116, 111, 111, 32, 108, 97, 114, 103, 101] }] 74, .cells #[.string { data := #[115, 110, 97, 112, 112, 121, 58, 32, 117, 110, 115, 117, 112, 112, 111, 114, 116, 101, 100, 32, 108, 105, 116, 101, 114, 97, 108, 32, 108, 101, 110, 103, 116, 104] }] 74], #[], []⟩
  { w0 with heap := (((w0.heap.modify 1 fun | .cells _ t frozen => .cells #[.iface 55 (.pointer (some ⟨low + 0, 0, none⟩))] t frozen | o => o).modify 2 fun | .cells _ t frozen => .cells #[.iface 55 (.pointer (some ⟨low + 1, 0, none⟩))] t frozen | o => o).modify 0 fun | .cells _ t frozen => .cells #[.iface 55 (.pointer (some ⟨low + 2, 0, none⟩))] t frozen | o => o) }

theorem laid_met (os : Os) : laidMetH Tryd.prog Rows.fnSnappyDecodeRow.laid ((laidWorld os).forCall (fun _ _ => 0) ⟨#[], #[.slice none 0 0], []⟩).memory :=
  laidMet_of_run (ps := [.cell 1 0, .cell (low + 0) 0, .cell 2 0, .cell (low + 1) 0, .cell 0 0, .cell (low + 2) 0]) 8 (by kernel_rfl) (by kernel_rfl) (by kernel_rfl)
set_option maxRecDepth 100000 in
theorem lifted (os : Os) (started : os.Started) (H : Type) (enc : TypeId × Value → H) (F : Stop.Interp) :
    ReturnsInHanded {} Tryd.checked os 4 .any ((OpenSpec.ofChange Rows.fnSnappyDecodeSpec).preRow enc Tryd.prog Tryd.f4 Rows.fnSnappyDecodeRow.domain false Rows.fnSnappyDecodeRow.laid) (((OpenSpec.ofChange Rows.fnSnappyDecodeSpec).at F).post enc Tryd.prog Tryd.f4 false true false false) := by
  skip
  refine returnsInHanded_of_row (C := Tryd.checked) (s := OpenSpec.ofChange Rows.fnSnappyDecodeSpec) own started (by kernel_rfl) Tryd.func4
    (witness_row_at (enc := enc) (C := Tryd.checked) false (laidWorld os) #[.slice none 0 0] rfl (by kernel_rfl) (by kernel_rfl) (by kernel_rfl)
      (OpenSpec.preRow_of_B rfl 8 (by kernel_rfl) (by kernel_rfl) (laid_met os))) ?_
  intro W base args ds gs before hval hW _ _ _ hL _ _
  exact contract H enc W base args ds gs before hval hW hL

theorem said : Rows.FnSnappyDecodeSaid :=
  OpenClaim.holds_of_cond 4 Tryd.f4 rfl rfl rfl rfl rfl rfl rfl ⟨rfl, rfl, rfl, rfl, rfl⟩ rfl rfl rfl rfl rfl (by kernel_rfl) Tryd.func4 (by kernel_rfl)
    (of_decide_eq_true (by kernel_rfl)) (by unfold Func.isWrapper; first | (rw [if_pos (by decide +kernel)]; kernel_rfl) | (rw [if_neg (by decide +kernel)]; exact ⟨rfl, rfl⟩))
    (fun os started H enc _ F => by rw [OpenClaim.pre_eq_preRow]; exact lifted os started H enc F)

/-- No parameter wants a stand-in; the program's own looks are off. -/
theorem plain (f : FuncId) (fn : Func) (hf : Tryd.pinned.checked.prog.funcNamed "loop.example/pub-g01444/laws.FnSnappyDecode" = some f) (hfn : Tryd.pinned.checked.prog.funcs[f]? = some fn) :
    false = Tryd.pinned.checked.prog.looks [] ∧ ∀ (j : Nat) t, fn.params[j]? = some t → Tryd.pinned.checked.prog.wantsStandIn t = false := by
  obtain rfl : f = 4 := Option.some.inj ((show Tryd.prog.funcNamed "loop.example/pub-g01444/laws.FnSnappyDecode" = some 4 by kernel_rfl).symm.trans hf) |>.symm
  obtain rfl : fn = Tryd.f4 := (Option.some.inj (Tryd.func4.symm.trans hfn)).symm
  refine ⟨by kernel_rfl, fun j t ht => ?_⟩
  rw [Tryd.params4] at ht
  have hm : t ∈ [22] := by simpa using Array.mem_of_getElem? ht
  have hall : ([22].all fun u => !Tryd.prog.wantsStandIn u) = true := by kernel_rfl
  exact (show Tryd.prog.wantsStandIn t = false by simpa using List.all_eq_true.1 hall t hm)

/-- THE CARD -/
theorem card : Rows.FnSnappyDecodeCardSaid :=
  Claim7.holds_tied_plain_at .later [] _ _ _ _ said (fun _ h => by cases h) (by kernel_rfl) (fun _ h => by cases h) fnSnappyDecode_row_tie rfl ⟨rfl, rfl⟩ (by kernel_rfl) rfl plain (by kernel_rfl)
#print axioms card
end Go.Proofs.YthiklljhhnedkaaDoor.fnSnappyDecode
