/-
  binary.LittleEndian.Uint64 of a slice of at least 8 bytes is the number of the first 8 of them, the lowest first. Condition: at least 8 bytes.
-/
import Derived.Test.YtkpmhdpeglbacaaDoorRows
import Derived.Test.YtkpmhdpeglbacaaDoorShelf
import Derived.Test.YtkpmhdpeglbacaaDoorSl
namespace Go.Proofs.YtkpmhdpeglbacaaDoor
open Go.RowKit

theorem take_8 (l : List UInt8) (h : 8 ≤ l.length) : l.take 8 = [l[0], l[1], l[2], l[3], l[4], l[5], l[6], l[7]] := by
  match l, h with
  | b0 :: b1 :: b2 :: b3 :: b4 :: b5 :: b6 :: b7 :: _, _ => rfl

theorem uint64_any (A : Option Addr) (n c B : Nat) (l : List UInt8) (w : World) (hs : Sl w B A n c l) (h : 8 ≤ n) :
    Calls Tryd.prog 48 #[.agg #[], .slice A n c] w fun e w' => e = .returned (.int .u64 (Lib.leNat (l.take 8))) ∧ Below w.heap.size w w' := by
  obtain rfl := hs.len
  obtain ⟨g, o, rfl, hg, hc⟩ := hs.at_ (by omega)
  rw [take_8 l h]
  exact Tryd.binary_LE_Uint64 g o l.length c l[0] l[1] l[2] l[3] l[4] l[5] l[6] l[7] w h (hc 0 (by omega)) (hc 1 (by omega)) (hc 2 (by omega)) (hc 3 (by omega)) (hc 4 (by omega)) (hc 5 (by omega)) (hc 6 (by omega)) (hc 7 (by omega))
end Go.Proofs.YtkpmhdpeglbacaaDoor
