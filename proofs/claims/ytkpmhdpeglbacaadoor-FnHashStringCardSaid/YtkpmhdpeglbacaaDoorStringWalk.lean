/-
  The walk of FnHashString: it returns true. Condition: the first prime stands where the program lays it.
-/
import Derived.Test.YtkpmhdpeglbacaaDoorHashWalk
import Derived.Test.YtkpmhdpeglbacaaDoorBytesOf
namespace Go.Proofs.YtkpmhdpeglbacaaDoor
open Go.RowKit

set_option maxHeartbeats 800000 in
theorem sumString_any (s : ByteArray) (w : World) (hn : s.size ≤ 2147483647)
    (hp : w.cell? ⟨0, 0, none⟩ = some (.int .u64 11400714785074694791)) :
    Calls Tryd.prog 21 #[.string s] w fun e w' => e = .returned (.int .u64 (xx (strB s))) ∧ Below w.heap.size w w' := by
  have hg1 := grownCap_ge w s.size 0 5
  have hg2 := grownCap_le_maxLen w s.size 0 5 (by unfold maxLen; omega)
  have HP := Lib.hid hp
  have kc := fun W => run_bytes_of_string (P := Tryd.prog) W 9 22 5 s Tryd.underlying9 Tryd.underlying22 Tryd.underlying5
  clear hp
  go_enter Tryd.func21, Tryd.ntmps21
  go_wp2_with fail
  clear kc
  generalize hW : (w.alloc (.cells (bytesRow s (grownCap w s.size 0 5)) 5 ((bytesRow s (grownCap w s.size 0 5)).size, (bytesRow s (grownCap w s.size 0 5)).size + 1))).drew = W1
  have hS := sl_bytes w W1 s _ _ hg1 hg2 1 hW.symm
  have hB : Below w.heap.size w W1 := by rw [← hW]; exact ((Below.refl _ _).alloc (Nat.le_refl _) _).drew
  clear hW
  refine (sum64_any _ _ _ _ _ hS hn (prime_keep hB (prime_size HP.out) HP.out)).mono ?_
  rintro e w' ⟨rfl, hb⟩
  go_wp2
  go_ret
  exact ⟨rfl, hB.trans (hb.mono hB.size)⟩

set_option maxHeartbeats 800000 in
theorem implString_any (s : ByteArray) (w : World) (hn : s.size ≤ 2147483647)
    (hp : w.cell? ⟨0, 0, none⟩ = some (.int .u64 11400714785074694791)) :
    Calls Tryd.prog 10 #[.string s] w fun e w' => e = .returned (.int .u64 (xx (strB s))) ∧ Below w.heap.size w w' := by
  have K := Lib.hid (sumString_any s w hn hp)
  clear hp
  go_enter Tryd.func10, Tryd.ntmps10
  go_wp2_with (go_at_call 21; refine K.out.mono ?_; rintro e w' ⟨rfl, hb⟩)
  go_ret
  exact ⟨rfl, hb⟩

set_option maxHeartbeats 800000 in
theorem hashStringLaw_walk (s : ByteArray) (w : World) (hs : s.size ≤ maxLen)
    (hp : w.cell? ⟨0, 0, none⟩ = some (.int .u64 11400714785074694791)) :
    Calls Tryd.prog 4 #[.string s] w fun e w' => e = .returned (.bool true) ∧ Below w.heap.size w w' := by
  unfold maxLen at hs
  by_cases hn : s.size ≤ 2147483647
  · by_cases h4 : s.size ≤ 40000
    · have K1 := Lib.hid (implString_any s w hn hp)
      have hg1 := fun W : World => grownCap_ge W s.size 0 5
      have hg2 := fun W : World => grownCap_le_maxLen W s.size 0 5 (by unfold maxLen; omega)
      have G1 := Lib.hid hg1
      have G2 := Lib.hid hg2
      have kc := fun W => run_bytes_of_string (P := Tryd.prog) W 9 22 5 s Tryd.underlying9 Tryd.underlying22 Tryd.underlying5
      clear hp hg1 hg2
      go_enter Tryd.func4, Tryd.ntmps4
      go_wp2_with fail
      refine K1.out.mono ?_
      rintro e w1 ⟨rfl, hb⟩
      go_wp2_with fail
      clear kc
      generalize hW : (w1.alloc (.cells (bytesRow s (grownCap w1 s.size 0 5)) 5 ((bytesRow s (grownCap w1 s.size 0 5)).size, (bytesRow s (grownCap w1 s.size 0 5)).size + 1))).drew = W1
      have hS := sl_bytes w1 W1 s _ _ (G1.out w1) (G2.out w1) 1 hW.symm
      have hB : Below w1.heap.size w1 W1 := by rw [← hW]; exact ((Below.refl _ _).alloc (Nat.le_refl _) _).drew
      clear hW
      refine (hash_any _ _ _ _ _ hS hn).mono ?_
      rintro e w2 ⟨rfl, hb2⟩
      go_wp2
      go_ret
      exact ⟨rfl, (hb.trans (hB.mono hb.size)).trans (hb2.mono (Nat.le_trans hb.size hB.size))⟩
    · clear hp
      go_enter Tryd.func4, Tryd.ntmps4
      go_wp2
      go_ret
      exact ⟨rfl, Below.refl _ _⟩
  · clear hp
    go_enter Tryd.func4, Tryd.ntmps4
    go_wp2
    go_ret
    exact ⟨rfl, Below.refl _ _⟩
end Go.Proofs.YtkpmhdpeglbacaaDoor
