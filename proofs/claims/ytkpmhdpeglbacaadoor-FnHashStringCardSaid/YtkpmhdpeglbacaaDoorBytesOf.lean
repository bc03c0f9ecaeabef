/-
  []byte of a text reads as the text's bytes. Condition: the text is no longer than a text can be.
-/
import Derived.Test.YtkpmhdpeglbacaaDoorRows
import Derived.Test.YtkpmhdpeglbacaaDoorSl
import Derived.Laws.IdiomStrings
namespace Go.Proofs.YtkpmhdpeglbacaaDoor
open Go.RowKit

/-- the bytes of a text -/
def strB (s : ByteArray) : List UInt8 := s.data.toList
theorem strB_length (s : ByteArray) : (strB s).length = s.size := by rw [strB, Array.length_toList]; rfl

theorem sl_bytes (w w' : World) (s : ByteArray) (cap : Nat) (fr : Nat × Nat) (hs : s.size ≤ cap) (hm : cap ≤ maxLen) (n : Nat)
    (hw : w' = ((w.alloc (.cells (bytesRow s cap) 5 fr)).drewN n)) : Sl w' w'.heap.size (some ⟨w.heap.size, 0, none⟩) s.size cap (strB s) := by
  subst hw
  refine ⟨strB_length s, hs, hm, .inr ⟨w.heap.size, 0, rfl, by simp, fun j hj => ?_⟩⟩
  rw [strB_length] at hj
  have hd : j < s.data.size := hj
  show (w.alloc (.cells (bytesRow s cap) 5 fr)).cell? ⟨w.heap.size, 0 + j, none⟩ = _
  rw [Nat.zero_add, World.cell?_alloc_mark, bytesRow_at s cap j hd]
  simp [strB]
end Go.Proofs.YtkpmhdpeglbacaaDoor
