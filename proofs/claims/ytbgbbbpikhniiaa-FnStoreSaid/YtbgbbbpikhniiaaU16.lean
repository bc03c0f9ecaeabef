/-
  binary.LittleEndian.Uint16 of a slice of at least 2 bytes is the number of the first 2 of them, the lowest first. Condition: at least 2 bytes.
-/
import Derived.Test.YtbgbbbpikhniiaaRows
import Derived.Test.YtbgbbbpikhniiaaShelf
import Derived.Test.YtbgbbbpikhniiaaSl
namespace Go.Proofs.Ytbgbbbpikhniiaa
open Go.RowKit

theorem take_2 (l : List UInt8) (h : 2 ≤ l.length) : l.take 2 = [l[0], l[1]] := by
  match l, h with
  | b0 :: b1 :: _, _ => rfl

theorem uint16_any (A : Option Addr) (n c B : Nat) (l : List UInt8) (w : World) (hs : Sl w B A n c l) (h : 2 ≤ n) :
    Calls Try.prog 25 #[.agg #[], .slice A n c] w fun e w' => e = .returned (.int .u16 (Lib.leNat (l.take 2))) ∧ Below w.heap.size w w' := by
  obtain rfl := hs.len
  obtain ⟨g, o, rfl, hg, hc⟩ := hs.at_ (by omega)
  rw [take_2 l h]
  exact Try.binary_LE_Uint16 g o l.length c l[0] l[1] w h (hc 0 (by omega)) (hc 1 (by omega))
end Go.Proofs.Ytbgbbbpikhniiaa
