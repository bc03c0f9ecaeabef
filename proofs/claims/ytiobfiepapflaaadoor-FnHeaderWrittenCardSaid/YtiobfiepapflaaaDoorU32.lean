/-
  binary.LittleEndian.Uint32 of a slice of at least 4 bytes is the number of the first 4 of them, the lowest first. Condition: at least 4 bytes.
-/
import Derived.Test.YtiobfiepapflaaaDoorRows
import Derived.Test.YtiobfiepapflaaaDoorShelf
import Derived.Test.YtiobfiepapflaaaDoorSl
namespace Go.Proofs.YtiobfiepapflaaaDoor
open Go.RowKit

theorem take_4 (l : List UInt8) (h : 4 ≤ l.length) : l.take 4 = [l[0], l[1], l[2], l[3]] := by
  match l, h with
  | b0 :: b1 :: b2 :: b3 :: _, _ => rfl

theorem uint32_any (A : Option Addr) (n c B : Nat) (l : List UInt8) (w : World) (hs : Sl w B A n c l) (h : 4 ≤ n) :
    Calls Tryd.prog 17 #[.agg #[], .slice A n c] w fun e w' => e = .returned (.int .u32 (Lib.leNat (l.take 4))) ∧ Below w.heap.size w w' := by
  obtain rfl := hs.len
  obtain ⟨g, o, rfl, hg, hc⟩ := hs.at_ (by omega)
  rw [take_4 l h]
  exact Tryd.binary_LE_Uint32 g o l.length c l[0] l[1] l[2] l[3] w h (hc 0 (by omega)) (hc 1 (by omega)) (hc 2 (by omega)) (hc 3 (by omega))
end Go.Proofs.YtiobfiepapflaaaDoor
