/-
  DERIVED. GIVEN WITH THE SEED: THE CARDS: each row of YthkklojjpgjiiaaFmtRows.lean that lists a variable, with what it lists TIED to the program's text (the seventh form; the later family's looks); each row that meets fmt, with fmt's text TOLD by the authors' own Lean function (tested against real Go, not proved from fmt's source: count such statements apart). THE CARD IS WHAT COUNTS. Prove the row's statement (the work); the ties are given (YthkklojjpgjiiaaFmtTie.lean); close each card by the builder's one call (the guide's Derived/Test/ToyasCard.lean, 'card_holds'). Laid BY PROGRAM, IN A SANDBOX (cutbox-door.mjs). By AI agents, Wed Nov 11 2026. No macro, syntax, notation, axiom, sorry.
-/
import Derived.Test.YthkklojjpgjiiaaFmtRows
import GoSem.ClaimSeven
namespace Go.Proofs.YthkklojjpgjiiaaFmt
namespace Rows

/-- THE TOLD AND TIED CARD OF 'laws.FnCodeUsed'. -/
def fnCodeUsedCard : Claim7 := { stood := { row := fnCodeUsedRow, standIns := [], harness := (true, "7bce008a3344c12e0a6d01aed75ebe39eb2853c3623554abf669c51636ff394a"), looks := false }, told := true, laidByText := true, laidKinds := [.sentinel, .sentinel], laidTests := true, laidLooks := .later, goes := false }
def FnCodeUsedToldSaid : Prop := Claim7.holds Tryf.pinned (.plain (OpenSpec.ofChange fnCodeUsedSpec)) fnCodeUsedCard
/-- ITS FALSE NEIGHBOUR. Refute it at one input. -/
def FnCodeUsedToldWrongFalsely : Prop := Claim7.holds Tryf.pinned (.plain (OpenSpec.ofChange fnCodeUsedWrong)) fnCodeUsedCard

/-- THE TOLD AND TIED CARD OF 'laws.FnHuffTable'. -/
def fnHuffTableCard : Claim7 := { stood := { row := fnHuffTableRow, standIns := [], harness := (true, "7bce008a3344c12e0a6d01aed75ebe39eb2853c3623554abf669c51636ff394a"), looks := false }, told := true, laidByText := true, laidKinds := [.sentinel, .sentinel], laidTests := true, laidLooks := .later, goes := false }
def FnHuffTableToldSaid : Prop := Claim7.holds Tryf.pinned (.plain (OpenSpec.ofChange fnHuffTableSpec)) fnHuffTableCard
/-- ITS FALSE NEIGHBOUR. Refute it at one input. -/
def FnHuffTableToldWrongFalsely : Prop := Claim7.holds Tryf.pinned (.plain (OpenSpec.ofChange fnHuffTableWrong)) fnHuffTableCard
end Rows
end Go.Proofs.YthkklojjpgjiiaaFmt
