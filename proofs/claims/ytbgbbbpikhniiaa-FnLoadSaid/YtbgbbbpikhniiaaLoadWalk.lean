/-
  The walk of FnLoad: it returns true. Conditions: none but what the row gives.
-/
import Derived.Test.YtbgbbbpikhniiaaLoad
import Derived.Test.YtbgbbbpikhniiaaBridge
namespace Go.Proofs.Ytbgbbbpikhniiaa
open Go.RowKit

set_option maxHeartbeats 800000 in
theorem loadLaw_walk (A : Option Addr) (n c : Nat) (i k : Int) (l : List UInt8) (w : World) (hs : Sl w w.heap.size A n c l) (wk : (Lit.int .i64 k).wf = true) :
    Calls Try.prog 5 #[.slice A n c, .int .i64 i, .int .i64 k] w fun e w' => e = .returned (.bool true) ∧ Below w.heap.size w w' := by
  have hm := hs.most
  have hcc := hs.cap
  by_cases hn : n ≤ 2147483647
  · have K1 := Lib.hid (implLoad_any A n c i k l w hs hn wk)
    have K2 : Hid (∀ w', Below w.heap.size w w' → Calls Try.prog 11 #[.slice A n c, .int .i64 i, .int .i64 k] w' fun e w'' => e = .returned (.int .u64 (ldV l i k)) ∧ w' = w'') :=
      Lib.hid fun w' hb => loaded_any A n c i k l w' ((hs.below hb).more hb.size) hn wk
    clear hs
    go_enter Try.func5, Try.ntmps5
    go_wp2_with fail
    refine K1.out.mono ?_
    rintro e w' ⟨rfl, hb⟩
    go_wp2_with fail
    refine (K2.out _ hb).mono ?_
    rintro e w'' ⟨rfl, rfl⟩
    go_wp2
    go_ret
    exact ⟨rfl, hb⟩
  · go_enter Try.func5, Try.ntmps5
    go_wp2
    go_ret
    exact ⟨rfl, Below.refl _ _⟩
end Go.Proofs.Ytbgbbbpikhniiaa
