/-
  A new digest. Conditions: the first prime stands where the program lays it.
-/
import Derived.Test.YtkpmhdpeglbacaaDoorDig
namespace Go.Proofs.YtkpmhdpeglbacaaDoor
open Go.RowKit

theorem heap_alloc_new (w : World) (o : Obj) : (w.alloc o).heap[w.heap.size]? = some o := by
  show (w.heap.push o)[w.heap.size]? = some o
  simp

set_option maxHeartbeats 1600000 in
theorem new_any (w : World) (hG : 0 < w.heap.size)
    (hp : w.cell? ⟨0, 0, none⟩ = some (.int .u64 11400714785074694791)) :
    Calls Tryd.prog 22 #[] w fun e w' => e = .returned (.pointer (some ⟨w.heap.size, 0, none⟩)) ∧ Dg w' w.heap.size [] ∧ Below w.heap.size w w' := by
  go_enter Tryd.func22, Tryd.ntmps22
  go_wp2_with fail
  refine (reset_any w.heap.size (0, 0, 0, 0) 0 0 (List.replicate 32 0) _ ⟨?_, rfl⟩ hG ?_).mono ?_
  · exact heap_alloc_new _ _
  · rw [(Below.refl w.heap.size w).alloc (Nat.le_refl _) _ |>.cell (p := ⟨0, 0, none⟩) hG]
    exact hp
  rintro e w' ⟨rfl, hd, hb⟩
  have hb2 : Below w.heap.size w w' := ((Below.refl w.heap.size w).alloc (Nat.le_refl _) _).trans hb
  clear hb
  go_wp2_with fail
  go_ret
  exact ⟨rfl, hd, hb2⟩
end Go.Proofs.YtkpmhdpeglbacaaDoor
