/-
  What is known of a header that is written, behind the dictionary's number: a definition.
-/
import Derived.Test.YtiobfiepapflaaaDoorHdOwn
namespace Go.Proofs.YtiobfiepapflaaaDoor
open Go.RowKit

/-- behind the dictionary's number -/
def RelA (zi Wi Di : Int) (D : Nat) (s k : Bool) (P B : Nat) (w : World) (A1 : Option Addr) (c1 : Nat) (v5 v6 : Value) (wx : World) : Prop :=
  v5 = .int .u8 ((fl0 s k D : Nat) : Int) ∧ ∃ (T : Nat) (R : List UInt8), Dst (fhR zi Wi s k Di) P B w D T R magicF (.slice A1 4 c1) wx ∧ ((D = 0 ∧ v6 = .slice none 0 0) ∨ (0 < D ∧ v6 = .slice (some ⟨T, 0, none⟩) (dn D) 4 ∧ R.length = 4 ∧ R.take (dn D) = Lib.leBytes (dn D) D))
end Go.Proofs.YtiobfiepapflaaaDoor
