/-
  The walk of FnHash: it returns true. Condition: the first prime stands where the program lays it.
-/
import Derived.Test.YtkpmhdpeglbacaaDoorHashSpec
import Derived.Test.YtkpmhdpeglbacaaDoorBridge
namespace Go.Proofs.YtkpmhdpeglbacaaDoor
open Go.RowKit

theorem prime_keep {w w' : World} {B : Nat} (hb : Below B w w') (hB : 0 < B) (hp : w.cell? ⟨0, 0, none⟩ = some (.int .u64 11400714785074694791)) :
    w'.cell? ⟨0, 0, none⟩ = some (.int .u64 11400714785074694791) :=
  (hb.cell (p := ⟨_, 0, none⟩) hB).trans hp
theorem prime_size {w : World} (hp : w.cell? ⟨0, 0, none⟩ = some (.int .u64 11400714785074694791)) : 0 < w.heap.size := by
  have := World.block_lt_of_cell? _ _ hp
  exact this

set_option maxHeartbeats 800000 in
theorem implHash_any (A : Option Addr) (n c : Nat) (l : List UInt8) (w : World) (hs : Sl w w.heap.size A n c l) (hn : n ≤ 2147483647)
    (hp : w.cell? ⟨0, 0, none⟩ = some (.int .u64 11400714785074694791)) :
    Calls Tryd.prog 8 #[.slice A n c] w fun e w' => e = .returned (.int .u64 (xx l)) ∧ Below w.heap.size w w' := by
  have K := Lib.hid (sum64_any A n c l w hs hn hp)
  clear hp
  go_enter Tryd.func8, Tryd.ntmps8
  go_wp2_with (go_at_call 16; refine K.out.mono ?_; rintro e w' ⟨rfl, hb⟩)
  go_ret
  exact ⟨rfl, hb⟩

set_option maxHeartbeats 800000 in
theorem hashLaw_walk (A : Option Addr) (n c : Nat) (l : List UInt8) (w : World) (hs : Sl w w.heap.size A n c l)
    (hp : w.cell? ⟨0, 0, none⟩ = some (.int .u64 11400714785074694791)) :
    Calls Tryd.prog 3 #[.slice A n c] w fun e w' => e = .returned (.bool true) ∧ Below w.heap.size w w' := by
  have hm := hs.most
  have hcc := hs.cap
  by_cases hn : n ≤ 2147483647
  · by_cases h4 : n ≤ 40000
    · have K1 := Lib.hid (implHash_any A n c l w hs hn hp)
      have K2 : Hid (∀ w', Below w.heap.size w w' → Calls Tryd.prog 9 #[.slice A n c] w' fun e w'' => e = .returned (.int .u64 (xx l)) ∧ Below w'.heap.size w' w'') :=
        Lib.hid fun w' hb => hash_any A n c l w' ((hs.below hb).more hb.size) hn
      clear hs hp
      go_enter Tryd.func3, Tryd.ntmps3
      go_wp2_with fail
      refine K1.out.mono ?_
      rintro e w1 ⟨rfl, hb⟩
      go_wp2_with fail
      refine (K2.out _ hb).mono ?_
      rintro e w2 ⟨rfl, hb2⟩
      go_wp2
      go_ret
      exact ⟨rfl, hb.trans (hb2.mono hb.size)⟩
    · clear hp
      go_enter Tryd.func3, Tryd.ntmps3
      go_wp2
      go_ret
      exact ⟨rfl, Below.refl _ _⟩
  · clear hp
    go_enter Tryd.func3, Tryd.ntmps3
    go_wp2
    go_ret
    exact ⟨rfl, Below.refl _ _⟩
end Go.Proofs.YtkpmhdpeglbacaaDoor
