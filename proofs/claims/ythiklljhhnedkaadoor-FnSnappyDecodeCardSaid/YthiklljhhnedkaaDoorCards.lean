/-
  DERIVED. GIVEN WITH THE SEED: THE CARDS: each row of YthiklljhhnedkaaDoorRows.lean that lists a variable, with what it lists TIED to the program's text (the seventh form; the later family's looks); each row that meets fmt, with fmt's text TOLD by the authors' own Lean function (tested against real Go, not proved from fmt's source: count such statements apart). THE CARD IS WHAT COUNTS. Prove the row's statement (the work); the ties are given (YthiklljhhnedkaaDoorTie.lean); close each card by the builder's one call (the guide's Derived/Test/ToyasCard.lean, 'card_holds'). Laid BY PROGRAM, IN A SANDBOX (cutbox-door.mjs). By AI agents, Wed Nov 11 2026. No macro, syntax, notation, axiom, sorry.
-/
import Derived.Test.YthiklljhhnedkaaDoorRows
import GoSem.ClaimSeven
namespace Go.Proofs.YthiklljhhnedkaaDoor
namespace Rows

/-- THE TIED CARD OF 'laws.FnSnappyLen'. -/
def fnSnappyLenCard : Claim7 := { stood := { row := fnSnappyLenRow, standIns := [], harness := (true, "903419e5f5bdbef6d7d27f3cd1af022433329906480f40ce61853abe478d58d9"), looks := false }, kinds := [], alts := [], laidByText := true, laidKinds := [.sentinel, .sentinel], laidTests := true, laidLooks := .later }
def FnSnappyLenCardSaid : Prop := Claim7.holds Tryd.pinned (.plain (OpenSpec.ofChange fnSnappyLenSpec)) fnSnappyLenCard

/-- THE TIED CARD OF 'laws.FnSnappyDecode'. -/
def fnSnappyDecodeCard : Claim7 := { stood := { row := fnSnappyDecodeRow, standIns := [], harness := (true, "903419e5f5bdbef6d7d27f3cd1af022433329906480f40ce61853abe478d58d9"), looks := false }, kinds := [], alts := [], laidByText := true, laidKinds := [.sentinel, .sentinel, .sentinel], laidTests := true, laidLooks := .later }
def FnSnappyDecodeCardSaid : Prop := Claim7.holds Tryd.pinned (.plain (OpenSpec.ofChange fnSnappyDecodeSpec)) fnSnappyDecodeCard

/-- THE SECOND FORM's CARD OF 'laws.FnSnappyLen'. -/
def fnSnappyLenUptoCard : Claim7 := { stood := { row := fnSnappyLenUptoRow, standIns := [], harness := (true, "903419e5f5bdbef6d7d27f3cd1af022433329906480f40ce61853abe478d58d9"), looks := false }, kinds := [], alts := [], laidByText := true, laidKinds := [.sentinel, .sentinel], laidTests := true, laidLooks := .later }
def FnSnappyLenUptoCardSaid : Prop := Claim7.holds Tryd.pinned (.plain (OpenSpec.upto fnSnappyLenSpec)) fnSnappyLenUptoCard

/-- THE SECOND FORM's CARD OF 'laws.FnSnappyDecode'. -/
def fnSnappyDecodeUptoCard : Claim7 := { stood := { row := fnSnappyDecodeUptoRow, standIns := [], harness := (true, "903419e5f5bdbef6d7d27f3cd1af022433329906480f40ce61853abe478d58d9"), looks := false }, kinds := [], alts := [], laidByText := true, laidKinds := [.sentinel, .sentinel, .sentinel], laidTests := true, laidLooks := .later }
def FnSnappyDecodeUptoCardSaid : Prop := Claim7.holds Tryd.pinned (.plain (OpenSpec.upto fnSnappyDecodeSpec)) fnSnappyDecodeUptoCard
end Rows
end Go.Proofs.YthiklljhhnedkaaDoor
