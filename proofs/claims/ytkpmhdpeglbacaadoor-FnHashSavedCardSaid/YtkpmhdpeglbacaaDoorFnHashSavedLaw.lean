/-
  FnHashSaved: a digest whose state is saved and restored goes on; Sum appends the hash with its highest byte first. Conditions: none but that the first primes stand as the program lays them, which the card ties.
-/
import Derived.Test.YtkpmhdpeglbacaaDoorCards
import Derived.Test.YtkpmhdpeglbacaaDoorTie
import Derived.Test.YtkpmhdpeglbacaaDoorVars
import Derived.Test.YtkpmhdpeglbacaaDoorSavedWalk
import Derived.SevenTiedAt
import Derived.Stop.LaidErr
namespace Go.Proofs.YtkpmhdpeglbacaaDoor.fnHashSaved
open Go.ChangeShapes Go.WideShapes Go.ChangeAt Go.RowKit
open Go.ChangeMaps (open_string shut_string)
set_option linter.unusedVariables false

theorem own : ownKnob Tryd.prog.godebug = none := by kernel_rfl
theorem laidOut : laidOutB Tryd.prog = true := by kernel_rfl
theorem varsOk : (Rows.fnHashSavedSpec.vars.all fun n => varOk Tryd.prog n) = true := by kernel_rfl
theorem gTab : Tryd.prog.globalNamed "loop.example/pub-g01444/pub/compress/zstd/inner/xxhash.primes" = some 0 := by kernel_rfl
theorem gTabType : (Tryd.prog.globals[0]?).map (·.type) = some 54 := by kernel_rfl
theorem table {W : World} (h : laidMetH Tryd.prog Rows.fnHashSavedRow.laid W) : Lib.TabIs Tryd.prog W "loop.example/pub-g01444/pub/compress/zstd/inner/xxhash.primes" .u64 [11400714785074694791, 14029467366897019727, 1609587929392839161, 9650029242287828579, 2870177450012600261] :=
  Lib.tabIs_of_head (rest := []) gTab gTabType Tryd.underlying54 Tryd.underlying23 (by kernel_rfl) (by kernel_rfl) h

theorem contract (H : Type) (enc : TypeId × Value → H) (W : World) (base : Nat) (args : Array Value) (ds gs : List (DataW H)) (before : List MemPlace)
    (hval : ∀ (j : Nat) t v, Tryd.f7.params[j]? = some t → args[j]? = some v → Value.okWide Tryd.prog W .any base t v)
    (hW : DataW.Whole enc Tryd.prog Tryd.f7.params.toList Rows.fnHashSavedSpec.vars false W args.toList ds gs before) (hL : laidMetH Tryd.prog Rows.fnHashSavedRow.laid W) :
    Calls Tryd.prog 7 args W fun e W' => ∃ v, e = .returned v ∧ Rows.fnHashSavedSpec.post enc Tryd.prog Tryd.f7 false true false false W args v W' := by
  have hW' := hW
  obtain ⟨p, q, hA0, hV, rfl, hfz, hnd⟩ := hW
  have hA : DataW.TrodAll enc Tryd.prog W 0 (fun _ => true) true Tryd.f7.params.toList args.toList ds p := hA0
  rw [Tryd.params7] at hA hval
  obtain ⟨v0, vs0, d0, ds0, p0, q0, hargs, rfl, rfl, h0, r0⟩ := trodAll_cons hA
  obtain ⟨v1, vs1, d1, ds1, p1, q1, rfl, rfl, rfl, h1, r1⟩ := trodAll_cons r0
  obtain ⟨v2, vs2, d2, ds2, p2, q2, rfl, rfl, rfl, h2, r2⟩ := trodAll_cons r1
  obtain ⟨rfl, rfl, rfl⟩ := trodAll_nil r2
  obtain rfl : args = #[v0, v1, v2] := by cases args; simp_all
  have hltq : ∀ x ∈ q, x.block < W.heap.size := fun x hx => by simpa using hW'.lt x (by simp [hx])
  obtain ⟨a0, len0, cap0, rfl⟩ := okWide_slice Tryd.underlying22 (hval 0 22 v0 rfl rfl)
  have k0 := h0
  have lt0 : ∀ x ∈ p0, x.block < W.heap.size := by obtain ⟨m, hm⟩ := k0; exact DataW.trod_lt m _ _ _ hm
  obtain ⟨z0, w0⟩ := isRow_of Tryd.underlying22 Tryd.underlying5 (by kernel_rfl) h0
  obtain ⟨a1, len1, cap1, rfl⟩ := okWide_slice Tryd.underlying22 (hval 1 22 v1 rfl rfl)
  have k1 := h1
  have lt1 : ∀ x ∈ p1, x.block < W.heap.size := by obtain ⟨m, hm⟩ := k1; exact DataW.trod_lt m _ _ _ hm
  obtain ⟨z1, w1⟩ := isRow_of Tryd.underlying22 Tryd.underlying5 (by kernel_rfl) h1
  obtain ⟨a2, len2, cap2, rfl⟩ := okWide_slice Tryd.underlying22 (hval 2 22 v2 rfl rfl)
  have k2 := h2
  have lt2 : ∀ x ∈ p2, x.block < W.heap.size := by obtain ⟨m, hm⟩ := k2; exact DataW.trod_lt m _ _ _ hm
  obtain ⟨z2, w2⟩ := isRow_of Tryd.underlying22 Tryd.underlying5 (by kernel_rfl) h2
  clear hA0
  have c0 : W.cell? ⟨0, 0, none⟩ = some (.int .u64 11400714785074694791) := (table hL).cell gTab 0 (by decide)
  have walk : Calls Tryd.prog 7 #[.slice a0 len0 cap0, .slice a1 len1 cap1, .slice a2 len2 cap2] W fun e w' => e = .returned (.bool true) ∧ Below W.heap.size W w' := by
    obtain ⟨l, hl⟩ := sl_of_row w0
    obtain ⟨l2, hl2⟩ := sl_of_row w1
    obtain ⟨l3, hl3⟩ := sl_of_row w2
    exact hashSavedLaw_walk _ _ _ _ _ _ _ _ _ l l2 l3 W hl hl2 hl3 c0
  refine walk.mono fun e W' ⟨he, bel⟩ => ?_
  subst he
  have hVars := vars_below laidOut bel varsOk hV hltq
  obtain ⟨g0, rfl⟩ := list1 (show gs.length = 1 from trodVars_len hV)
  exact ⟨_, rfl, _, _, _, [], _, q, hW', trodAll_mk1 (shut_bool Tryd.underlying4 _), (trodAll_cons_mk (Below.trod laidOut (by kernel_rfl) (of_decide_eq_true (by kernel_rfl)) k0 bel lt0) (trodAll_cons_mk (Below.trod laidOut (by kernel_rfl) (of_decide_eq_true (by kernel_rfl)) k1 bel lt1) (trodAll_cons_mk (Below.trod laidOut (by kernel_rfl) (of_decide_eq_true (by kernel_rfl)) k2 bel lt2) trodAll_mk0))), hVars, bel.frame _, fun h => by cases h⟩

/-- A world for the witness: the settled one, the table (block 0) holding what its initialiser lays. -/
noncomputable def laidWorld (os : Os) : World :=
  { World.holding Tryd.prog os ⟨#[], #[], []⟩ with heap := (World.holding Tryd.prog os ⟨#[], #[], []⟩).heap.modify 0 fun
      | .cells _ t frozen => .cells #[.int .u64 11400714785074694791, .int .u64 14029467366897019727, .int .u64 1609587929392839161, .int .u64 9650029242287828579, .int .u64 2870177450012600261] t frozen
      | o => o }

theorem laid_met (os : Os) : laidMetH Tryd.prog Rows.fnHashSavedRow.laid ((laidWorld os).forCall (fun _ _ => 0) ⟨#[], #[.slice none 0 0, .slice none 0 0, .slice none 0 0], []⟩).memory :=
  laidMet_of_run' 8 (by kernel_rfl) (by kernel_rfl)
theorem reads (os : Os) {H : Type} (enc : TypeId × Value → H) : ∃ places, DataW.whole enc Tryd.prog ((laidWorld os).forCall (fun _ _ => 0) ⟨#[], #[.slice none 0 0, .slice none 0 0, .slice none 0 0], []⟩).memory Tryd.f7.params.toList Rows.fnHashSavedSpec.vars false (#[.slice none 0 0, .slice none 0 0, .slice none 0 0] : Array Value).toList 8 = some ([.nil, .nil, .nil], [.agg [.lit (.int .u64 11400714785074694791), .lit (.int .u64 14029467366897019727), .lit (.int .u64 1609587929392839161), .lit (.int .u64 9650029242287828579), .lit (.int .u64 2870177450012600261)]], places) :=
  ⟨[.cell 0 0, .cell 0 1, .cell 0 2, .cell 0 3, .cell 0 4], by kernel_rfl⟩

set_option maxRecDepth 100000 in
theorem lifted (os : Os) (started : os.Started) (H : Type) (enc : TypeId × Value → H) (F : Stop.Interp) :
    ReturnsInHanded {} Tryd.checked os 7 .any ((OpenSpec.ofChange Rows.fnHashSavedSpec).preRow enc Tryd.prog Tryd.f7 Rows.fnHashSavedRow.domain false Rows.fnHashSavedRow.laid) (((OpenSpec.ofChange Rows.fnHashSavedSpec).at F).post enc Tryd.prog Tryd.f7 false true false false) := by
  obtain ⟨places, hx⟩ := reads os enc
  refine returnsInHanded_of_row (C := Tryd.checked) (s := OpenSpec.ofChange Rows.fnHashSavedSpec) own started (by kernel_rfl) Tryd.func7
    (witness_row_at (enc := enc) (C := Tryd.checked) false (laidWorld os) #[.slice none 0 0, .slice none 0 0, .slice none 0 0] rfl (by kernel_rfl) (by kernel_rfl) (by kernel_rfl)
      (OpenSpec.preRow_of_cond 8 hx (by kernel_rfl) (fun k hk => by cases hk) (by kernel_rfl) (laid_met os))) ?_
  intro W base args ds gs before hval hW _ _ _ hL _ _
  exact contract H enc W base args ds gs before hval hW hL

theorem said : Rows.FnHashSavedSaid :=
  OpenClaim.holds_of_cond 7 Tryd.f7 rfl rfl rfl rfl rfl rfl rfl ⟨rfl, rfl, rfl, rfl, rfl⟩ rfl rfl rfl rfl rfl (by kernel_rfl) Tryd.func7 (by kernel_rfl)
    (of_decide_eq_true (by kernel_rfl)) (by unfold Func.isWrapper; first | (rw [if_pos (by decide +kernel)]; kernel_rfl) | (rw [if_neg (by decide +kernel)]; exact ⟨rfl, rfl⟩))
    (fun os started H enc _ F => by rw [OpenClaim.pre_eq_preRow]; exact lifted os started H enc F)

/-- No parameter wants a stand-in; the program's own looks are off. -/
theorem plain (f : FuncId) (fn : Func) (hf : Tryd.pinned.checked.prog.funcNamed "loop.example/pub-g01444/laws.FnHashSaved" = some f) (hfn : Tryd.pinned.checked.prog.funcs[f]? = some fn) :
    false = Tryd.pinned.checked.prog.looks [] ∧ ∀ (j : Nat) t, fn.params[j]? = some t → Tryd.pinned.checked.prog.wantsStandIn t = false := by
  obtain rfl : f = 7 := Option.some.inj ((show Tryd.prog.funcNamed "loop.example/pub-g01444/laws.FnHashSaved" = some 7 by kernel_rfl).symm.trans hf) |>.symm
  obtain rfl : fn = Tryd.f7 := (Option.some.inj (Tryd.func7.symm.trans hfn)).symm
  refine ⟨by kernel_rfl, fun j t ht => ?_⟩
  rw [Tryd.params7] at ht
  have hm : t ∈ [22, 22, 22] := by simpa using Array.mem_of_getElem? ht
  have hall : ([22, 22, 22].all fun u => !Tryd.prog.wantsStandIn u) = true := by kernel_rfl
  exact (show Tryd.prog.wantsStandIn t = false by simpa using List.all_eq_true.1 hall t hm)

/-- THE CARD -/
theorem card : Rows.FnHashSavedCardSaid :=
  Claim7.holds_tied_plain_at .later [] _ _ _ _ said (fun _ h => by cases h) (by kernel_rfl) (fun _ h => by cases h) fnHashSaved_row_tie rfl ⟨rfl, rfl⟩ (by kernel_rfl) rfl plain (by kernel_rfl)
#print axioms card
end Go.Proofs.YtkpmhdpeglbacaaDoor.fnHashSaved
