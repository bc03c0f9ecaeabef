/-
  DERIVED. GIVEN WITH THE SEED: THE CARDS: each row of YtiobfiepapflaaaDoorRows.lean that lists a variable, with what it lists TIED to the program's text (the seventh form; the later family's looks); each row that meets fmt, with fmt's text TOLD by the authors' own Lean function (tested against real Go, not proved from fmt's source: count such statements apart). THE CARD IS WHAT COUNTS. Prove the row's statement (the work); the ties are given (YtiobfiepapflaaaDoorTie.lean); close each card by the builder's one call (the guide's Derived/Test/ToyasCard.lean, 'card_holds'). Laid BY PROGRAM, IN A SANDBOX (cutbox-door.mjs). By AI agents, Wed Nov 11 2026. No macro, syntax, notation, axiom, sorry.
-/
import Derived.Test.YtiobfiepapflaaaDoorRows
import GoSem.ClaimSeven
namespace Go.Proofs.YtiobfiepapflaaaDoor
namespace Rows

/-- THE TIED CARD OF 'laws.FnHeaderRead'. -/
def fnHeaderReadCard : Claim7 := { stood := { row := fnHeaderReadRow, standIns := [], harness := (true, "e772180928b05280d8fae1af405bf95d778b8cebdc7760e9df9fec5691b04b6f"), looks := false }, kinds := [], alts := [], laidByText := true, laidKinds := [.sentinel, .sentinel], laidTests := true, laidLooks := .later }
def FnHeaderReadCardSaid : Prop := Claim7.holds Tryd.pinned (.plain (OpenSpec.ofChange fnHeaderReadSpec)) fnHeaderReadCard

/-- THE TIED CARD OF 'laws.FnHeaderStripped'. -/
def fnHeaderStrippedCard : Claim7 := { stood := { row := fnHeaderStrippedRow, standIns := [], harness := (true, "e772180928b05280d8fae1af405bf95d778b8cebdc7760e9df9fec5691b04b6f"), looks := false }, kinds := [], alts := [], laidByText := true, laidKinds := [.sentinel, .sentinel], laidTests := true, laidLooks := .later }
def FnHeaderStrippedCardSaid : Prop := Claim7.holds Tryd.pinned (.plain (OpenSpec.ofChange fnHeaderStrippedSpec)) fnHeaderStrippedCard

/-- THE TIED CARD OF 'laws.FnHeaderWritten'. -/
def fnHeaderWrittenCard : Claim7 := { stood := { row := fnHeaderWrittenRow, standIns := [], harness := (true, "e772180928b05280d8fae1af405bf95d778b8cebdc7760e9df9fec5691b04b6f"), looks := false }, kinds := [], alts := [], laidByText := true, laidKinds := [.sentinel, .sentinel], laidTests := true, laidLooks := .later }
def FnHeaderWrittenCardSaid : Prop := Claim7.holds Tryd.pinned (.plain (OpenSpec.ofChange fnHeaderWrittenSpec)) fnHeaderWrittenCard

/-- THE SECOND FORM's CARD OF 'laws.FnHeaderRead'. -/
def fnHeaderReadUptoCard : Claim7 := { stood := { row := fnHeaderReadUptoRow, standIns := [], harness := (true, "e772180928b05280d8fae1af405bf95d778b8cebdc7760e9df9fec5691b04b6f"), looks := false }, kinds := [], alts := [], laidByText := true, laidKinds := [.sentinel, .sentinel], laidTests := true, laidLooks := .later }
def FnHeaderReadUptoCardSaid : Prop := Claim7.holds Tryd.pinned (.plain (OpenSpec.upto fnHeaderReadSpec)) fnHeaderReadUptoCard

/-- THE SECOND FORM's CARD OF 'laws.FnHeaderStripped'. -/
def fnHeaderStrippedUptoCard : Claim7 := { stood := { row := fnHeaderStrippedUptoRow, standIns := [], harness := (true, "e772180928b05280d8fae1af405bf95d778b8cebdc7760e9df9fec5691b04b6f"), looks := false }, kinds := [], alts := [], laidByText := true, laidKinds := [.sentinel, .sentinel], laidTests := true, laidLooks := .later }
def FnHeaderStrippedUptoCardSaid : Prop := Claim7.holds Tryd.pinned (.plain (OpenSpec.upto fnHeaderStrippedSpec)) fnHeaderStrippedUptoCard

/-- THE SECOND FORM's CARD OF 'laws.FnHeaderWritten'. -/
def fnHeaderWrittenUptoCard : Claim7 := { stood := { row := fnHeaderWrittenUptoRow, standIns := [], harness := (true, "e772180928b05280d8fae1af405bf95d778b8cebdc7760e9df9fec5691b04b6f"), looks := false }, kinds := [], alts := [], laidByText := true, laidKinds := [.sentinel, .sentinel], laidTests := true, laidLooks := .later }
def FnHeaderWrittenUptoCardSaid : Prop := Claim7.holds Tryd.pinned (.plain (OpenSpec.upto fnHeaderWrittenSpec)) fnHeaderWrittenUptoCard
end Rows
end Go.Proofs.YtiobfiepapflaaaDoor
