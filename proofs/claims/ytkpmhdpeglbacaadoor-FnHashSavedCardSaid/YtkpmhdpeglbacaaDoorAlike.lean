/-
  spec.Alike says true of two slices that hold the same bytes. Condition: they hold the same bytes.
-/
import Derived.Test.YtkpmhdpeglbacaaDoorRows
import Derived.Test.YtkpmhdpeglbacaaDoorSl
namespace Go.Proofs.YtkpmhdpeglbacaaDoor
open Go.RowKit

def Drawn (w : World) (v : Value) (e : Ending) (w' : World) : Prop := e = .returned v ∧ ∃ n, w' = w.drewN n
def DrewN (w w' : World) : Prop := ∃ n, w' = w.drewN n
theorem DrewN.refl (w : World) : DrewN w w := ⟨0, rfl⟩
theorem DrewN.more {w w' : World} (h : DrewN w w') (k : Nat) : DrewN w (w'.drewN k) := by
  obtain ⟨n, rfl⟩ := h
  exact ⟨n + k, by rw [World.drewN_drewN]⟩
theorem DrewN.cell {w w' : World} (h : DrewN w w') (a : Addr) : w'.cell? a = w.cell? a := by
  obtain ⟨n, rfl⟩ := h
  rfl
theorem DrewN.below {w w' : World} (h : DrewN w w') (B : Nat) : Below B w w' := by
  obtain ⟨n, rfl⟩ := h
  exact ⟨rfl, rfl, rfl, Nat.le_refl _, fun _ _ => rfl⟩
theorem DrewN.size {w w' : World} (h : DrewN w w') : w'.heap.size = w.heap.size := by
  obtain ⟨n, rfl⟩ := h
  rfl

set_option maxHeartbeats 800000 in
theorem alike_eq (A A2 : Option Addr) (n c n2 c2 B B2 : Nat) (l : List UInt8) (w : World) (hs : Sl w B A n c l) (hs2 : Sl w B2 A2 n2 c2 l) :
    Calls Tryd.prog 14 #[.slice A n c, .slice A2 n2 c2] w fun e w' => e = .returned (.bool true) ∧ DrewN w w' := by
  obtain rfl := hs.len
  obtain rfl := hs2.len
  have hm := hs.most
  have hcc := hs.cap
  have hat := Lib.hid hs.at_
  have hat2 := Lib.hid hs2.at_
  clear hs hs2
  go_enter Tryd.func14, Tryd.ntmps14
  go_wp2
  go_loopw [5, 13] (fun _ i wr => ∃ k : Nat, k ≤ l.length ∧ i = .int .i64 k ∧ DrewN w wr) (fun _ i _ => l.length - (intOf i).toNat)
  case atStart => exact ⟨0, Nat.zero_le _, rfl, DrewN.refl _⟩
  case round =>
    obtain ⟨k, hk, rfl, hd⟩ := hrel
    by_cases hlt : k < l.length
    · obtain ⟨g, o, rfl, _, hc⟩ := hat.out (by omega)
      obtain ⟨g2, o2, rfl, _, hc2⟩ := hat2.out (by omega)
      have c1 : wr.cell? ⟨g, o + k, none⟩ = some (.int .u8 (l[k]).toNat) := (hd.cell _).trans (hc k hlt)
      have c3 : wr.cell? ⟨g2, o2 + k, none⟩ = some (.int .u8 (l[k]).toNat) := (hd.cell _).trans (hc2 k hlt)
      have hlt' : (k : Int) < (l.length : Int) := by omega
      clear hc hc2
      go_wp2
      go_quiet (fail)
      go_wp2
      go_roundw
      case rel => exact ⟨k + 1, by omega, by go_num, hd.more _⟩
      case measure => simp [intOf]; omega
    · obtain rfl : k = l.length := by omega
      go_wp2
      go_ret
      exact ⟨rfl, hd⟩
end Go.Proofs.YtkpmhdpeglbacaaDoor
