/-
  DERIVED. GIVEN WITH THE SEED: THE CARDS: each row of YtkpmhdpeglbacaaDoorRows.lean that lists a variable, with what it lists TIED to the program's text (the seventh form; the later family's looks); each row that meets fmt, with fmt's text TOLD by the authors' own Lean function (tested against real Go, not proved from fmt's source: count such statements apart). THE CARD IS WHAT COUNTS. Prove the row's statement (the work); the ties are given (YtkpmhdpeglbacaaDoorTie.lean); close each card by the builder's one call (the guide's Derived/Test/ToyasCard.lean, 'card_holds'). Laid BY PROGRAM, IN A SANDBOX (cutbox-door.mjs). By AI agents, Wed Nov 11 2026. No macro, syntax, notation, axiom, sorry.
-/
import Derived.Test.YtkpmhdpeglbacaaDoorRows
import GoSem.ClaimSeven
namespace Go.Proofs.YtkpmhdpeglbacaaDoor
namespace Rows

/-- THE TIED CARD OF 'laws.FnHash'. -/
def fnHashCard : Claim7 := { stood := { row := fnHashRow, standIns := [], harness := (true, "5407e6cfd33fdb72d09e10b1514fa60360c79be107dff60b18a23deee3386f53"), looks := false }, kinds := [], alts := [], laidByText := true, laidKinds := [.data], laidTests := true, laidLooks := .later }
def FnHashCardSaid : Prop := Claim7.holds Tryd.pinned (.plain (OpenSpec.ofChange fnHashSpec)) fnHashCard

/-- THE TIED CARD OF 'laws.FnHashString'. -/
def fnHashStringCard : Claim7 := { stood := { row := fnHashStringRow, standIns := [], harness := (true, "5407e6cfd33fdb72d09e10b1514fa60360c79be107dff60b18a23deee3386f53"), looks := false }, kinds := [], alts := [], laidByText := true, laidKinds := [.data], laidTests := true, laidLooks := .later }
def FnHashStringCardSaid : Prop := Claim7.holds Tryd.pinned (.plain (OpenSpec.ofChange fnHashStringSpec)) fnHashStringCard

/-- THE TIED CARD OF 'laws.FnHashAgain'. -/
def fnHashAgainCard : Claim7 := { stood := { row := fnHashAgainRow, standIns := [], harness := (true, "5407e6cfd33fdb72d09e10b1514fa60360c79be107dff60b18a23deee3386f53"), looks := false }, kinds := [], alts := [], laidByText := true, laidKinds := [.data], laidTests := true, laidLooks := .later }
def FnHashAgainCardSaid : Prop := Claim7.holds Tryd.pinned (.plain (OpenSpec.ofChange fnHashAgainSpec)) fnHashAgainCard

/-- THE TIED CARD OF 'laws.FnHashCut'. -/
def fnHashCutCard : Claim7 := { stood := { row := fnHashCutRow, standIns := [], harness := (true, "5407e6cfd33fdb72d09e10b1514fa60360c79be107dff60b18a23deee3386f53"), looks := false }, kinds := [], alts := [], laidByText := true, laidKinds := [.data], laidTests := true, laidLooks := .later }
def FnHashCutCardSaid : Prop := Claim7.holds Tryd.pinned (.plain (OpenSpec.ofChange fnHashCutSpec)) fnHashCutCard

/-- THE TIED CARD OF 'laws.FnHashSaved'. -/
def fnHashSavedCard : Claim7 := { stood := { row := fnHashSavedRow, standIns := [], harness := (true, "5407e6cfd33fdb72d09e10b1514fa60360c79be107dff60b18a23deee3386f53"), looks := false }, kinds := [], alts := [], laidByText := true, laidKinds := [.data], laidTests := true, laidLooks := .later }
def FnHashSavedCardSaid : Prop := Claim7.holds Tryd.pinned (.plain (OpenSpec.ofChange fnHashSavedSpec)) fnHashSavedCard

/-- THE SECOND FORM's CARD OF 'laws.FnHash'. -/
def fnHashUptoCard : Claim7 := { stood := { row := fnHashUptoRow, standIns := [], harness := (true, "5407e6cfd33fdb72d09e10b1514fa60360c79be107dff60b18a23deee3386f53"), looks := false }, kinds := [], alts := [], laidByText := true, laidKinds := [.data], laidTests := true, laidLooks := .later }
def FnHashUptoCardSaid : Prop := Claim7.holds Tryd.pinned (.plain (OpenSpec.upto fnHashSpec)) fnHashUptoCard

/-- THE SECOND FORM's CARD OF 'laws.FnHashString'. -/
def fnHashStringUptoCard : Claim7 := { stood := { row := fnHashStringUptoRow, standIns := [], harness := (true, "5407e6cfd33fdb72d09e10b1514fa60360c79be107dff60b18a23deee3386f53"), looks := false }, kinds := [], alts := [], laidByText := true, laidKinds := [.data], laidTests := true, laidLooks := .later }
def FnHashStringUptoCardSaid : Prop := Claim7.holds Tryd.pinned (.plain (OpenSpec.upto fnHashStringSpec)) fnHashStringUptoCard

/-- THE SECOND FORM's CARD OF 'laws.FnHashAgain'. -/
def fnHashAgainUptoCard : Claim7 := { stood := { row := fnHashAgainUptoRow, standIns := [], harness := (true, "5407e6cfd33fdb72d09e10b1514fa60360c79be107dff60b18a23deee3386f53"), looks := false }, kinds := [], alts := [], laidByText := true, laidKinds := [.data], laidTests := true, laidLooks := .later }
def FnHashAgainUptoCardSaid : Prop := Claim7.holds Tryd.pinned (.plain (OpenSpec.upto fnHashAgainSpec)) fnHashAgainUptoCard

/-- THE SECOND FORM's CARD OF 'laws.FnHashCut'. -/
def fnHashCutUptoCard : Claim7 := { stood := { row := fnHashCutUptoRow, standIns := [], harness := (true, "5407e6cfd33fdb72d09e10b1514fa60360c79be107dff60b18a23deee3386f53"), looks := false }, kinds := [], alts := [], laidByText := true, laidKinds := [.data], laidTests := true, laidLooks := .later }
def FnHashCutUptoCardSaid : Prop := Claim7.holds Tryd.pinned (.plain (OpenSpec.upto fnHashCutSpec)) fnHashCutUptoCard

/-- THE SECOND FORM's CARD OF 'laws.FnHashSaved'. -/
def fnHashSavedUptoCard : Claim7 := { stood := { row := fnHashSavedUptoRow, standIns := [], harness := (true, "5407e6cfd33fdb72d09e10b1514fa60360c79be107dff60b18a23deee3386f53"), looks := false }, kinds := [], alts := [], laidByText := true, laidKinds := [.data], laidTests := true, laidLooks := .later }
def FnHashSavedUptoCardSaid : Prop := Claim7.holds Tryd.pinned (.plain (OpenSpec.upto fnHashSavedSpec)) fnHashSavedUptoCard
end Rows
end Go.Proofs.YtkpmhdpeglbacaaDoor
