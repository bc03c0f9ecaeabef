/-
  FnLevelTexts: for every text the texts of the levels are known and give the levels, and others give the second level. Conditions: none but that the tables of the library stand as the program lays them, which the card ties.
-/
import Derived.Test.YtodbncgamjkmmaaDoorCards
import Derived.Test.YtodbncgamjkmmaaDoorTie
import Derived.Test.YtodbncgamjkmmaaDoorVars
import Derived.Test.YtodbncgamjkmmaaDoorLvlWalk
import Derived.SevenTiedAt
import Derived.Stop.LaidErr
import Derived.ProofKit
import Derived.LaidMore
import Derived.Lay
import Derived.Stop.Joined
namespace Go.Proofs.YtodbncgamjkmmaaDoor.fnLevelTexts
open Go.ChangeShapes Go.WideShapes Go.ChangeAt Go.RowKit
open Go.ChangeMaps (open_string shut_string)
set_option linter.unusedVariables false

theorem own : ownKnob Tryd.prog.godebug = none := by kernel_rfl
theorem laidOut : laidOutB Tryd.prog = true := by kernel_rfl
theorem varsOk : (Rows.fnLevelTextsSpec.vars.all fun n => varOk Tryd.prog n) = true := by kernel_rfl


theorem contract (H : Type) (enc : TypeId × Value → H) (W : World) (base : Nat) (args : Array Value) (ds gs : List (DataW H)) (before : List MemPlace)
    (hval : ∀ (j : Nat) t v, Tryd.f3.params[j]? = some t → args[j]? = some v → Value.okWide Tryd.prog W .any base t v)
    (hW : DataW.Whole enc Tryd.prog Tryd.f3.params.toList Rows.fnLevelTextsSpec.vars false W args.toList ds gs before) (hL : laidMetH Tryd.prog Rows.fnLevelTextsRow.laid W) :
    Calls Tryd.prog 3 args W fun e W' => ∃ v, e = .returned v ∧ Rows.fnLevelTextsSpec.post enc Tryd.prog Tryd.f3 false true false false W args v W' := by
  have hW' := hW
  obtain ⟨p, q, hA0, hV, rfl, hfz, hnd⟩ := hW
  have hA : DataW.TrodAll enc Tryd.prog W 0 (fun _ => true) true Tryd.f3.params.toList args.toList ds p := hA0
  rw [Tryd.params3] at hA hval
  obtain ⟨v0, vs0, d0, ds0, p0, q0, hargs, rfl, rfl, h0, r0⟩ := trodAll_cons hA
  obtain ⟨rfl, rfl, rfl⟩ := trodAll_nil r0
  obtain rfl : args = #[v0] := by cases args; simp_all
  have hltq : ∀ x ∈ q, x.block < W.heap.size := fun x hx => by simpa using hW'.lt x (by simp [hx])
  obtain ⟨a0, rfl, rfl, rfl, w0⟩ := open_string Tryd.underlying9 (hval 0 9 v0 rfl rfl) h0
  clear hA0
  have walk : Calls Tryd.prog 3 #[.string a0] W fun e w' => e = .returned (.bool true) ∧ Below W.heap.size W w' := by
    exact levelsLaw_walk _ W w0
  refine walk.mono fun e W' ⟨he, bel⟩ => ?_
  subst he
  have hVars := vars_below laidOut bel varsOk hV hltq
  obtain rfl : gs = [] := List.eq_nil_of_length_eq_zero (show gs.length = 0 from trodVars_len hV)
  exact ⟨_, rfl, _, _, _, [], _, q, hW', trodAll_mk1 (shut_bool Tryd.underlying4 _), (trodAll_cons_mk (shut_string Tryd.underlying9 w0) trodAll_mk0), hVars, bel.frame _, fun h => by cases h⟩

noncomputable def laidWorld (os : Os) : World := World.laidAll Tryd.prog os Rows.fnLevelTextsRow.laid

theorem laid_met (os : Os) : laidMetH Tryd.prog Rows.fnLevelTextsRow.laid ((laidWorld os).forCall (fun _ _ => 0) ⟨#[], #[.string ⟨#[]⟩], []⟩).memory :=
  by rw [MakeChecks.laidMetH_plain _ _ _ (by kernel_rfl)]; exact laidMet_laidAll _ (by kernel_rfl) (by kernel_rfl)
set_option maxRecDepth 100000 in
theorem lifted (os : Os) (started : os.Started) (H : Type) (enc : TypeId × Value → H) (F : Stop.Interp) :
    ReturnsInHanded {} Tryd.checked os 3 .any ((OpenSpec.ofChange Rows.fnLevelTextsSpec).preRow enc Tryd.prog Tryd.f3 Rows.fnLevelTextsRow.domain false Rows.fnLevelTextsRow.laid) (((OpenSpec.ofChange Rows.fnLevelTextsSpec).at F).post enc Tryd.prog Tryd.f3 false true false false) := by
  skip
  refine returnsInHanded_of_row (C := Tryd.checked) (s := OpenSpec.ofChange Rows.fnLevelTextsSpec) own started (by kernel_rfl) Tryd.func3
    ⟨laidWorld os, fun _ _ => 0, ⟨#[], #[.string ⟨#[]⟩], []⟩, World.laidAll_os _ _ _, World.shaped_of_ZipB (by kernel_rfl) (by kernel_rfl), rfl, (Input.okWide_of_okWideB (base := 0) (by kernel_rfl)).2,
      OpenSpec.preRow_of_B rfl 8 (by kernel_rfl) (by kernel_rfl) (laid_met os), by simp only [Assume.holds]; exact ⟨by simp, by simp, fun _ => Modest.zero, by simp, by simp⟩⟩ ?_
  intro W base args ds gs before hval hW _ _ _ hL _ _
  exact contract H enc W base args ds gs before hval hW hL

theorem said : Rows.FnLevelTextsSaid :=
  OpenClaim.holds_of_cond 3 Tryd.f3 rfl rfl rfl rfl rfl rfl rfl ⟨rfl, rfl, rfl, rfl, rfl⟩ rfl rfl rfl rfl rfl (by kernel_rfl) Tryd.func3 (by kernel_rfl)
    (of_decide_eq_true (by kernel_rfl)) (by unfold Func.isWrapper; first | (rw [if_pos (by decide +kernel)]; kernel_rfl) | (rw [if_neg (by decide +kernel)]; exact ⟨rfl, rfl⟩))
    (fun os started H enc _ F => by rw [OpenClaim.pre_eq_preRow]; exact lifted os started H enc F)

/-- No parameter wants a stand-in; the program's own looks are off. -/
theorem plain (f : FuncId) (fn : Func) (hf : Tryd.pinned.checked.prog.funcNamed "loop.example/pub-g01444/laws.FnLevelTexts" = some f) (hfn : Tryd.pinned.checked.prog.funcs[f]? = some fn) :
    false = Tryd.pinned.checked.prog.looks [] ∧ ∀ (j : Nat) t, fn.params[j]? = some t → Tryd.pinned.checked.prog.wantsStandIn t = false := by
  obtain rfl : f = 3 := Option.some.inj ((show Tryd.prog.funcNamed "loop.example/pub-g01444/laws.FnLevelTexts" = some 3 by kernel_rfl).symm.trans hf) |>.symm
  obtain rfl : fn = Tryd.f3 := (Option.some.inj (Tryd.func3.symm.trans hfn)).symm
  refine ⟨by kernel_rfl, fun j t ht => ?_⟩
  rw [Tryd.params3] at ht
  have hm : t ∈ [9] := by simpa using Array.mem_of_getElem? ht
  have hall : ([9].all fun u => !Tryd.prog.wantsStandIn u) = true := by kernel_rfl
  exact (show Tryd.prog.wantsStandIn t = false by simpa using List.all_eq_true.1 hall t hm)

/-- THE CARD -/
theorem card : Rows.FnLevelTextsCardSaid :=
  Claim7.holds_tied_plain_at .later [] _ _ _ _ said (fun _ h => by cases h) (by kernel_rfl) (fun _ h => by cases h) fnLevelTexts_row_tie rfl ⟨rfl, rfl⟩ (by kernel_rfl) rfl plain (by kernel_rfl)
#print axioms card
end Go.Proofs.YtodbncgamjkmmaaDoor.fnLevelTexts
