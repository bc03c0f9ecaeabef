/-
  frameHeader.appendTo. Conditions: those of the theorem.
-/
import Derived.Test.YtiobfiepapflaaaDoorHdApp0
import Derived.Test.YtiobfiepapflaaaDoorHdApp1
import Derived.Test.YtiobfiepapflaaaDoorHdApp2
import Derived.Test.YtiobfiepapflaaaDoorHdApp3
namespace Go.Proofs.YtiobfiepapflaaaDoor
open Go.RowKit

theorem appendTo_any (zi Wi Di : Int) (z W e D : Nat) (s k : Bool) (w : World) (hzi : zi = z) (hWi : Wi = W) (hDi : Di = D) (hz : z < 18446744073709551616) (hW : W < 4294967296) (hWe : s = false → W = 2 ^ e ∧ 10 ≤ e ∧ e ≤ 31) (hD : D < 4294967296) :
    Calls Tryd.prog 19 #[.agg (fhR zi Wi s k Di), .slice none 0 0] w fun en w' => ∃ A c, en = .returned (.slice A (hdOut z e s k D).length c) ∧ Sl w' w'.heap.size A (hdOut z e s k D).length c (hdOut z e s k D) ∧ Below w.heap.size w w' := by
  rcases (show (z < 256) ∨ (256 ≤ z ∧ z < 65792) ∨ (65792 ≤ z ∧ z < 4294967295) ∨ 4294967295 ≤ z by omega) with h | h | h | h
  · exact appendTo_0 zi Wi Di z W e D s k w hzi hWi hDi h hz hW hWe hD
  · exact appendTo_1 zi Wi Di z W e D s k w hzi hWi hDi h hz hW hWe hD
  · exact appendTo_2 zi Wi Di z W e D s k w hzi hWi hDi h hz hW hWe hD
  · exact appendTo_3 zi Wi Di z W e D s k w hzi hWi hDi h hz hW hWe hD
end Go.Proofs.YtiobfiepapflaaaDoor
