/-
  The walk of FnSnappyLen: it returns true. Condition: the sentinel of the package stands where the program lays it.
-/
import Derived.Test.YthiklljhhnedkaaDoorSnLen
import Derived.Test.YthiklljhhnedkaaDoorBridge
namespace Go.Proofs.YthiklljhhnedkaaDoor
open Go.RowKit

set_option maxHeartbeats 800000 in
theorem decLen_good (A : Option Addr) (n c : Nat) (l : List UInt8) (w : World) (hs : Sl w w.heap.size A n c l) (h : (snLength l).2.2 = 0) :
    Calls Tryd.prog 11 #[.slice A n c] w fun e w' => e = .returned (.tuple #[.int .i64 (snLength l).1, .nilIface]) ∧ DrewN w w' := by
  have K := Lib.hid (decodedLen_good A n c l w hs h)
  clear h hs
  go_enter Tryd.func11, Tryd.ntmps11
  go_wp2_with (go_at_call 15; refine K.out.mono ?_; rintro e w' ⟨rfl, rfl⟩)
  go_ret2
  exact ⟨rfl, DrewN.refl _⟩
set_option maxHeartbeats 800000 in
theorem decLen_bad (A : Option Addr) (n c : Nat) (l : List UInt8) (w : World) (E : Value) (hs : Sl w w.heap.size A n c l) (h : (snLength l).2.2 = 1) (hE : w.cell? ⟨1, 0, none⟩ = some E) :
    Calls Tryd.prog 11 #[.slice A n c] w fun e w' => e = .returned (.tuple #[.int .i64 0, E]) ∧ DrewN w w' := by
  have K := Lib.hid (decodedLen_bad A n c l w E hs h hE)
  clear h hs hE
  go_enter Tryd.func11, Tryd.ntmps11
  go_wp2_with (go_at_call 15; refine K.out.mono ?_; rintro e w' ⟨rfl, hd⟩)
  go_ret2
  exact ⟨rfl, hd⟩
set_option maxHeartbeats 800000 in
theorem snLen_good (A : Option Addr) (n c : Nat) (l : List UInt8) (w : World) (hs : Sl w w.heap.size A n c l) (h : (snLength l).2.2 = 0) :
    Calls Tryd.prog 6 #[.slice A n c] w fun e w' => e = .returned (.tuple #[.int .i64 (snLength l).1, .bool true]) ∧ DrewN w w' := by
  have K := Lib.hid (decLen_good A n c l w hs h)
  clear h hs
  go_enter Tryd.func6, Tryd.ntmps6
  go_wp2_with (go_at_call 11; refine K.out.mono ?_; rintro e w' ⟨rfl, hd⟩)
  go_quiet (fail)
  go_wp2
  go_ret2
  exact ⟨rfl, hd.more _⟩
set_option maxHeartbeats 800000 in
theorem snLen_bad (A : Option Addr) (n c : Nat) (l : List UInt8) (w : World) (E : Value) (hs : Sl w w.heap.size A n c l) (h : (snLength l).2.2 = 1) (hE : Sentinel w 1 E) :
    Calls Tryd.prog 6 #[.slice A n c] w fun e w' => e = .returned (.tuple #[.int .i64 0, .bool false]) ∧ DrewN w w' := by
  obtain ⟨hE, T, a, rfl⟩ := hE
  have K := Lib.hid (decLen_bad A n c l w _ hs h hE)
  clear h hs hE
  go_enter Tryd.func6, Tryd.ntmps6
  go_wp2_with (go_at_call 11; refine K.out.mono ?_; rintro e w' ⟨rfl, hd⟩)
  go_quiet (fail)
  go_wp2
  go_ret2
  exact ⟨rfl, hd.more _⟩

set_option maxHeartbeats 800000 in
theorem snLenLaw_walk (A : Option Addr) (n c : Nat) (l : List UInt8) (w : World) (E : Value) (hs : Sl w w.heap.size A n c l) (hE : Sentinel w 1 E) :
    Calls Tryd.prog 3 #[.slice A n c] w fun e w' => e = .returned (.bool true) ∧ Below w.heap.size w w' := by
  have hm := hs.most
  have hcc := hs.cap
  by_cases hn : n ≤ 2147483647
  · have K1 := snappyLength_any A n c l w hs hn
    rcases snLength_class l with h | h | h
    · have K2 := Lib.hid (snLen_good A n c l w hs h)
      rw [h] at K1
      have K1' := Lib.hid K1
      obtain ⟨x, hx⟩ : ∃ x, x = (snLength l).1 := ⟨_, rfl⟩
      obtain ⟨y, hy⟩ : ∃ y, y = (snLength l).2.1 := ⟨_, rfl⟩
      rw [← hx] at K2 K1'
      rw [← hy] at K1'
      clear K1 h hx hy hE hs
      go_enter Tryd.func3, Tryd.ntmps3
      go_wp2_with fail
      refine K1'.out.mono ?_
      rintro e w' ⟨rfl, rfl⟩
      go_wp2_with fail
      refine K2.out.mono ?_
      rintro e w' ⟨rfl, hd⟩
      go_wp2
      go_ret
      exact ⟨rfl, hd.below _⟩
    · have K2 := Lib.hid (snLen_bad A n c l w E hs h hE)
      rw [h] at K1
      have K1' := Lib.hid K1
      obtain ⟨x, hx⟩ : ∃ x, x = (snLength l).1 := ⟨_, rfl⟩
      obtain ⟨y, hy⟩ : ∃ y, y = (snLength l).2.1 := ⟨_, rfl⟩
      rw [← hx, ← hy] at K1'
      clear K1 h hx hy hE hs
      go_enter Tryd.func3, Tryd.ntmps3
      go_wp2_with fail
      refine K1'.out.mono ?_
      rintro e w' ⟨rfl, rfl⟩
      go_wp2_with fail
      refine K2.out.mono ?_
      rintro e w' ⟨rfl, hd⟩
      go_wp2
      go_ret
      exact ⟨rfl, hd.below _⟩
    · rw [h] at K1
      have K1' := Lib.hid K1
      obtain ⟨x, hx⟩ : ∃ x, x = (snLength l).1 := ⟨_, rfl⟩
      obtain ⟨y, hy⟩ : ∃ y, y = (snLength l).2.1 := ⟨_, rfl⟩
      rw [← hx, ← hy] at K1'
      clear K1 h hx hy hE hs
      go_enter Tryd.func3, Tryd.ntmps3
      go_wp2_with fail
      refine K1'.out.mono ?_
      rintro e w' ⟨rfl, rfl⟩
      go_wp2
      go_ret
      exact ⟨rfl, Below.refl _ _⟩
  · clear hE hs
    go_enter Tryd.func3, Tryd.ntmps3
    go_wp2
    go_ret
    exact ⟨rfl, Below.refl _ _⟩
end Go.Proofs.YthiklljhhnedkaaDoor
