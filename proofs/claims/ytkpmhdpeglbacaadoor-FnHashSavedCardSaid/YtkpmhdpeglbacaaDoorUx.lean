/-
  u64 and u32 of a slice: the number of its first eight or four bytes. Condition: so many bytes are there.
-/
import Derived.Test.YtkpmhdpeglbacaaDoorU32
import Derived.Test.YtkpmhdpeglbacaaDoorU64
namespace Go.Proofs.YtkpmhdpeglbacaaDoor
open Go.RowKit

set_option maxHeartbeats 400000 in
theorem u64_any (A : Option Addr) (n c B : Nat) (l : List UInt8) (w : World) (hs : Sl w B A n c l) (h : 8 ≤ n) :
    Calls Tryd.prog 32 #[.slice A n c] w fun e w' => e = .returned (.int .u64 (Lib.leNat (l.take 8))) ∧ Below w.heap.size w w' := by
  have K := Lib.hid (uint64_any A n c B l w hs h)
  go_enter Tryd.func32, Tryd.ntmps32
  go_wp2_with (go_at_call 48; refine K.out.mono ?_; rintro e w' ⟨rfl, hb⟩)
  go_ret
  exact ⟨rfl, hb⟩

set_option maxHeartbeats 400000 in
theorem u32_any (A : Option Addr) (n c B : Nat) (l : List UInt8) (w : World) (hs : Sl w B A n c l) (h : 4 ≤ n) :
    Calls Tryd.prog 39 #[.slice A n c] w fun e w' => e = .returned (.int .u32 (Lib.leNat (l.take 4))) ∧ Below w.heap.size w w' := by
  have K := Lib.hid (uint32_any A n c B l w hs h)
  go_enter Tryd.func39, Tryd.ntmps39
  go_wp2_with (go_at_call 50; refine K.out.mono ?_; rintro e w' ⟨rfl, hb⟩)
  go_ret
  exact ⟨rfl, hb⟩

/-- the same of a part of a slice, in a later world -/
theorem u64_part (g o n c B i : Nat) (l : List UInt8) (w0 w : World) (hs : Sl w0 B (some ⟨g, o, none⟩) n c l) (hb : Below B w0 w) (h : i + 8 ≤ n) (c' : Nat) (h1 : 8 ≤ c') (h2 : c' ≤ c) :
    Calls Tryd.prog 32 #[.slice (some ⟨g, o + i, none⟩) 8 c'] w fun e w' => e = .returned (.int .u64 (Lib.leNat ((l.drop i).take 8))) ∧ Below w.heap.size w w' := by
  have hc := (hs.below hb).cut (some ⟨g, o + i, none⟩) (i := i) (j := i + 8) (c' := c') (by omega) h (by omega) h2 (fun _ => by simp [add_some])
  rw [List.drop_take, show i + 8 - i = 8 by omega] at hc
  have := u64_any _ _ _ _ _ w hc (Nat.le_refl _)
  rwa [List.take_of_length_le (by simp; omega)] at this

/-- the same of a part of a slice, in a later world -/
theorem u32_part (g o n c B i : Nat) (l : List UInt8) (w0 w : World) (hs : Sl w0 B (some ⟨g, o, none⟩) n c l) (hb : Below B w0 w) (h : i + 4 ≤ n) (c' : Nat) (h1 : 4 ≤ c') (h2 : c' ≤ c) :
    Calls Tryd.prog 39 #[.slice (some ⟨g, o + i, none⟩) 4 c'] w fun e w' => e = .returned (.int .u32 (Lib.leNat ((l.drop i).take 4))) ∧ Below w.heap.size w w' := by
  have hc := (hs.below hb).cut (some ⟨g, o + i, none⟩) (i := i) (j := i + 4) (c' := c') (by omega) h (by omega) h2 (fun _ => by simp [add_some])
  rw [List.drop_take, show i + 4 - i = 4 by omega] at hc
  have := u32_any _ _ _ _ _ w hc (Nat.le_refl _)
  rwa [List.take_of_length_le (by simp; omega)] at this
end Go.Proofs.YtkpmhdpeglbacaaDoor
