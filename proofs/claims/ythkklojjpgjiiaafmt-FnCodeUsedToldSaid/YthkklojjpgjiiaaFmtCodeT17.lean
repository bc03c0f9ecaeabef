/-
  A region that draws its order, whose operations only read but for the last ones: walked once, in the order of the text. Plain laws on the walk; conditions: those of each.
-/
import Derived.StillTail
import Derived.BigQuiet
import Derived.WalkKit
namespace Go.Proofs.YthkklojjpgjiiaaFmt
open Go.RowKit

section
variable {P : Program} {ops : Array Oper} {w : World}
theorem still_of_quiet {Q : Act → Prop} : ∀ (l : List Oper) (a : Act), wpQuiet P ops (fun w' => w' = w) Q l a → wpStill P ops w Q l a
  | [], _, h => h
  | o :: rest, a, h => by
    unfold wpQuiet at h
    unfold wpStill
    split
    · rename_i hw
      rw [if_pos hw] at h
      obtain ⟨v, hv, hn⟩ := h
      have hv := hv w rfl
      unfold Oper.quietAt at hv
      unfold Oper.still
      generalize (execOp a.eval o).run P w = r at hv
      cases r with
      | ok n w' =>
        cases n <;> simp only [Oper.quietUpon] at hv <;> simp only [Oper.stillUpon]
        case value u => obtain ⟨e, hu⟩ := hv; rw [← hu] at hn; exact ⟨e, still_of_quiet rest _ hn⟩
        case skip => obtain ⟨e, hu⟩ := hv; rw [hu] at hn; exact ⟨e, still_of_quiet rest _ hn⟩
        case enter f args => obtain ⟨e, hc⟩ := hv; exact ⟨e, v, hc, still_of_quiet rest _ hn⟩
      | halt x w' => simp only [Oper.quietUpon] at hv
    · rename_i hw
      rw [if_neg hw] at h
      exact still_of_quiet rest _ h

theorem wp_region_quiet_tail {id : Nat} {Q : Exit → Act → World → Prop} {a : Act} {l : List Oper} (n : Nat) (hm : P.follows .mixedOrders = true) (hB : Region.lexTailB .any l.toArray n = true)
    (h : wpQuiet P l.toArray (fun w' => w' = w.drewN 1) (fun a' => wpList P l.toArray Q (l.drop n) a' (w.drewN 1)) (l.take n) a) : (Code.region id l.toArray true).wp P Q a w :=
  wp_region_still_tail n hm hB (still_of_quiet _ _ h)
end
end Go.Proofs.YthkklojjpgjiiaaFmt
