/-
  DERIVED. GIVEN WITH THE SEED: THE CARDS: each row of YtodbncgamjkmmaaDoorRows.lean that lists a variable, with what it lists TIED to the program's text (the seventh form; the later family's looks); each row that meets fmt, with fmt's text TOLD by the authors' own Lean function (tested against real Go, not proved from fmt's source: count such statements apart). THE CARD IS WHAT COUNTS. Prove the row's statement (the work); the ties are given (YtodbncgamjkmmaaDoorTie.lean); close each card by the builder's one call (the guide's Derived/Test/ToyasCard.lean, 'card_holds'). Laid BY PROGRAM, IN A SANDBOX (cutbox-door.mjs). By AI agents, Wed Nov 11 2026. No macro, syntax, notation, axiom, sorry.
-/
import Derived.Test.YtodbncgamjkmmaaDoorRows
import GoSem.ClaimSeven
namespace Go.Proofs.YtodbncgamjkmmaaDoor
namespace Rows

/-- THE TIED CARD OF 'laws.FnLevelTexts'. -/
def fnLevelTextsCard : Claim7 := { stood := { row := fnLevelTextsRow, standIns := [], harness := (true, "ccad06e74e6af6fd434b57aa23d6ac261ca2436cb34ebd0d765067e7f3ba1a10"), looks := false }, kinds := [], alts := [], laidByText := true, laidKinds := [.data, .data, .data, .pinned, .pinned], laidTests := true, laidLooks := .later }
def FnLevelTextsCardSaid : Prop := Claim7.holds Tryd.pinned (.plain (OpenSpec.ofChange fnLevelTextsSpec)) fnLevelTextsCard

/-- THE SECOND FORM's CARD OF 'laws.FnLevelTexts'. -/
def fnLevelTextsUptoCard : Claim7 := { stood := { row := fnLevelTextsUptoRow, standIns := [], harness := (true, "ccad06e74e6af6fd434b57aa23d6ac261ca2436cb34ebd0d765067e7f3ba1a10"), looks := false }, kinds := [], alts := [], laidByText := true, laidKinds := [.data, .data, .data, .pinned, .pinned], laidTests := true, laidLooks := .later }
def FnLevelTextsUptoCardSaid : Prop := Claim7.holds Tryd.pinned (.plain (OpenSpec.upto fnLevelTextsSpec)) fnLevelTextsUptoCard
end Rows
end Go.Proofs.YtodbncgamjkmmaaDoor
