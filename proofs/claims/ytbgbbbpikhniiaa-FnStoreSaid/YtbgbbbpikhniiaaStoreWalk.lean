/-
  The walk of FnStore: it returns true. Conditions: none but what the row gives.
-/
import Derived.Test.YtbgbbbpikhniiaaStored
import Derived.Test.YtbgbbbpikhniiaaAlike
import Derived.Test.YtbgbbbpikhniiaaBridge
namespace Go.Proofs.Ytbgbbbpikhniiaa
open Go.RowKit

theorem setAll_len (l : List UInt8) (i k : Int) (v : Nat) : (stV l i k v).length = l.length := by
  unfold stV
  split
  · rfl
  · exact setAll_length _ _ _

set_option maxHeartbeats 800000 in
theorem storeLaw_walk (A : Option Addr) (n c : Nat) (i k x : Int) (l : List UInt8) (w : World) (hs : Sl w w.heap.size A n c l) (wk : (Lit.int .i64 k).wf = true) (wx : (Lit.int .u64 x).wf = true) :
    Calls Try.prog 6 #[.slice A n c, .int .i64 i, .int .i64 k, .int .u64 x] w fun e w' => e = .returned (.bool true) ∧ Below w.heap.size w w' := by
  have hm := hs.most
  have hcc := hs.cap
  have hx : 0 ≤ x ∧ x < 18446744073709551616 := by
    have e1 : IntKind.u64.min = 0 := rfl
    have e2 : IntKind.u64.max = 18446744073709551615 := rfl
    simp [Lit.wf, e1, e2] at wx
    omega
  obtain ⟨v, rfl⟩ : ∃ v : Nat, x = v := ⟨x.toNat, by omega⟩
  have hv : Hid (v < 18446744073709551616) := Lib.hid (by omega)
  clear hx wx
  by_cases hn : n ≤ 2147483647
  · have K1 := Lib.hid (implStore_any A n c i k v hv l w hs hn wk)
    have K2 : Hid (∀ w', Below w.heap.size w w' → w.heap.size ≤ w'.heap.size → Calls Try.prog 14 #[.slice A n c, .int .i64 i, .int .i64 k, .int .u64 v] w' (Gives w' w'.heap.size (stV l i k v))) :=
      Lib.hid fun w' hb hz => stored_any A n c i k v hv l w' ((hs.below hb).more hz) hn wk
    have hl2 : (stV l i k v).length ≤ 2147483647 := by rw [setAll_len, hs.len]; exact hn
    obtain ⟨r, hr⟩ : ∃ r, r = stV l i k v := ⟨_, rfl⟩
    rw [← hr] at K1 K2 hl2
    clear hr hs
    go_enter Try.func6, Try.ntmps6
    go_wp2_with fail
    refine K1.out.mono ?_
    rintro e w1 ⟨A1, c1, rfl, ho1, hs1, hb1⟩
    have hz1 := hb1.size
    go_wp2_with fail
    refine (K2.out _ hb1 hz1).mono ?_
    rintro e w2 ⟨A2, c2, rfl, ho2, hs2, hb2⟩
    have hz2 := hb2.size
    have hs1' := (hs1.below hb2).more hz2
    go_wp2_with fail
    refine (alike_eq _ _ _ _ _ _ _ _ _ _ hs1' hs2).mono ?_
    rintro e w3 ⟨rfl, hd3⟩
    have hs3 : Sl w3 w3.heap.size A1 r.length c1 r := (hs1'.below (hd3.below _)).more (by rw [hd3.size]; exact Nat.le_refl _)
    have hb3 : Below w.heap.size w w3 := (hb1.trans (hb2.mono hz1)).trans (hd3.below _)
    have L1 := Lib.hid (implLoad_any A1 r.length c1 i k r w3 hs3 hl2 wk)
    have L2 : Hid (∀ w', Below w3.heap.size w3 w' → w3.heap.size ≤ w'.heap.size → Calls Try.prog 11 #[.slice A1 r.length c1, .int .i64 i, .int .i64 k] w' fun e w'' => e = .returned (.int .u64 (ldV r i k)) ∧ w' = w'') :=
      Lib.hid fun w' hb hz => loaded_any A1 r.length c1 i k r w' ((hs3.below hb).more hz) hl2 wk
    clear K1 K2 hs1 hs2 hs1' hs3 ho1 ho2
    go_wp2_with fail
    refine L1.out.mono ?_
    rintro e w4 ⟨rfl, hb4⟩
    go_wp2_with fail
    refine (L2.out _ hb4 hb4.size).mono ?_
    rintro e w5 ⟨rfl, rfl⟩
    go_wp2
    go_ret
    exact ⟨rfl, hb3.trans (hb4.mono hb3.size)⟩
  · go_enter Try.func6, Try.ntmps6
    go_wp2
    go_ret
    exact ⟨rfl, Below.refl _ _⟩
end Go.Proofs.Ytbgbbbpikhniiaa
