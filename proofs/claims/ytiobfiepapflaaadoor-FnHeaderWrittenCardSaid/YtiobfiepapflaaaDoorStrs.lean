/-
  The text of a list of bytes. Plain lemma.
-/
import Derived.Test.YtiobfiepapflaaaDoorSl
import Derived.Laws.BytesArg
import Derived.Lib.SlBytesRow
namespace Go.Proofs.YtiobfiepapflaaaDoor
open Go.RowKit

theorem strOf_list (l : List UInt8) : (strOfNums (l.map fun x => (x.toNat : Int))).toList = l := by
  rw [ByteArray.toList_eq]
  rw [strOfNums_data, List.map_map]
  conv => rhs; rw [← List.map_id l]
  apply List.map_congr_left
  intro x _
  simp
end Go.Proofs.YtiobfiepapflaaaDoor
