/-
  The walk of FnHeaderStripped: it returns true. Condition: the two sentinels stand where the program lays them.
-/
import Derived.Test.YtiobfiepapflaaaDoorHdLaw
namespace Go.Proofs.YtiobfiepapflaaaDoor
open Go.RowKit

set_option maxRecDepth 100000 in
set_option maxHeartbeats 1600000 in
theorem stripLaw_open {w : World} {A : Option Addr} {n c : Nat} {l : List UInt8} {T0 T1 : TypeId} {a0 a1 : Addr} (h : HdIn w A n c l T0 T1 a0 a1) (hn : n ≤ 2147483647) (hT : TellsTo l hdZ 2) :
    Calls Tryd.prog 4 #[.slice A n c] w fun e w' => e = .returned (.bool true) ∧ Below w.heap.size w w' := by
  have K := Lib.hid (hT A n c w h.sl)
  have hm := h.sl.most
  have hc := h.sl.cap
  clear hT h
  go_enter Tryd.func4, Tryd.ntmps4
  go_wp2_with fail
  refine K.out.mono ?_
  rintro e w1 ⟨rfl, hb1⟩
  go_wp2_with fail
  go_ret
  exact ⟨rfl, hb1.alloc hb1.size _⟩
set_option maxRecDepth 100000 in
set_option maxHeartbeats 1600000 in
theorem stripLaw_bad {w : World} {A : Option Addr} {n c : Nat} {l : List UInt8} {T0 T1 : TypeId} {a0 a1 : Addr} (h : HdIn w A n c l T0 T1 a0 a1) (hn : n ≤ 2147483647) (hT : TellsTo l hdZ 1) (hB : DecBad l) :
    Calls Tryd.prog 4 #[.slice A n c] w fun e w' => e = .returned (.bool true) ∧ Below w.heap.size w w' := by
  have K := Lib.hid (hT A n c w h.sl)
  have hm := h.sl.most
  have hc := h.sl.cap
  have H := Lib.hid h
  clear hT h
  go_enter Tryd.func4, Tryd.ntmps4
  go_wp2_with fail
  refine K.out.mono ?_
  rintro e w1 ⟨rfl, hb1⟩
  go_wp2_with fail
  have hb2 := hb1.alloc hb1.size (.cells hdZ 28 (0, 0))
  refine (rd_bad (H.out.below hb2) hB).mono ?_
  rintro e w3 ⟨rfl, hb3⟩
  have hb4 := hb2.trans (hb3.mono hb2.size)
  clear hb3 hb2
  go_wp2_with fail
  have hb5 := hb4.alloc hb4.size (.cells hdZ 28 (0, 0))
  refine (st_bad (H.out.below hb5) hB).mono ?_
  rintro e w5 ⟨rfl, hb6⟩
  have hb7 := hb5.trans (hb6.mono hb5.size)
  clear hb6 hb5 hb4
  go_wp2_with fail
  go_ret
  exact ⟨rfl, hb7.alloc hb7.size _⟩
theorem eql28 (s : Bool) (win dict : Int) (has : Bool) (size : Int) (skip : Bool) (id ssz hs : Int) (ck ok last comp : Bool) (out inn : Int) (w : World) :
    (binOp .eql 28 (.agg (ihA s win dict has size skip id ssz hs ck ok last comp out inn)) (.agg (ihA s win dict has size skip id ssz hs ck ok last comp out inn))).run Tryd.prog w = .ok (.bool true) w := by
  have u28 := Tryd.underlying28
  have u26 := Tryd.underlying26
  have u4 := Tryd.underlying4
  have u23 := Tryd.underlying23
  have u24 := Tryd.underlying24
  have u2 := Tryd.underlying2
  have u3 := Tryd.underlying3
  go_simp

set_option maxRecDepth 100000 in
set_option maxHeartbeats 3200000 in
theorem stripLaw_good {w : World} {A : Option Addr} {n c : Nat} {l : List UInt8} {T0 T1 : TypeId} {a0 a1 : Addr} (h : HdIn w A n c l T0 T1 a0 a1) (hn : n ≤ 2147483647)
    (S : Bool) (win dict : Int) (has : Bool) (size : Int) (skip : Bool) (id ssz : Int) (p : Nat) (K : Bool) (ok last comp : Bool) (out inn : Int) (hp : p ≤ l.length)
    (hT : TellsTo l (ihA S win dict has size skip id ssz p K false false false 0 0) 0) (hG : DecGood l p (zhA S win dict has size skip id ssz p ok last comp out inn K)) :
    Calls Tryd.prog 4 #[.slice A n c] w fun e w' => e = .returned (.bool true) ∧ Below w.heap.size w w' := by
  have K1 := Lib.hid (hT A n c w h.sl)
  obtain rfl := h.sl.len
  have hm := h.sl.most
  have hc := h.sl.cap
  have H := Lib.hid h
  clear hT h
  go_enter Tryd.func4, Tryd.ntmps4
  go_wp2_with fail
  refine K1.out.mono ?_
  rintro e w1 ⟨rfl, hb1⟩
  clear K1
  go_wp2_with fail
  obtain ⟨DUE, hDUE⟩ : ∃ DUE, Obj.cells (ihA S win dict has size skip id ssz p K false false false 0 0) 28 (0, 0) = DUE := ⟨_, rfl⟩
  have hb2 := hb1.alloc hb1.size DUE
  have hR1 : (w1.alloc DUE).heap[w1.heap.size]? = some DUE := heap_alloc_new _ _
  have hz1 : (w1.alloc DUE).heap.size = w1.heap.size + 1 := Array.size_push ..
  rw [← hDUE] at hb2 hR1 hz1
  obtain ⟨w2, hw2⟩ : ∃ w2, w1.alloc (.cells (ihA S win dict has size skip id ssz p K false false false 0 0) 28 (0, 0)) = w2 := ⟨_, rfl⟩
  have hs1 := hb1.size
  rw [hw2] at hb2 hR1 hz1 ⊢
  obtain ⟨B, hB⟩ : ∃ B, w1.heap.size = B := ⟨_, rfl⟩
  rw [hB] at hR1 hz1 hs1 ⊢
  clear hw2 hb1 hB hDUE DUE
  refine (rd_good (H.out.below hb2) hG).mono ?_
  rintro e w3 ⟨rfl, hb3⟩
  have hR3 : Hid (w3.heap[B]? = some (.cells (ihA S win dict has size skip id ssz p K false false false 0 0) 28 (0, 0))) := Lib.hid ((hb3.block B (by omega)).trans hR1)
  have hb4 := hb2.trans (hb3.mono hb2.size)
  have hs3 : B < w3.heap.size := by have := hb3.size; omega
  have hw0 := hb2.size
  clear hb3 hb2 hR1 hz1
  go_wp2_with fail
  obtain ⟨B5, hB5⟩ : ∃ B5, w3.heap.size = B5 := ⟨_, rfl⟩
  have hb5 := hb4.alloc hb4.size (.cells (ihA S win dict has size skip id ssz p K ok last comp out inn) 28 (0, 0))
  have hR5 : (w3.alloc (.cells (ihA S win dict has size skip id ssz p K ok last comp out inn) 28 (0, 0))).heap[w3.heap.size]? = some (.cells (ihA S win dict has size skip id ssz p K ok last comp out inn) 28 (0, 0)) := heap_alloc_new _ _
  have hz5 : (w3.alloc (.cells (ihA S win dict has size skip id ssz p K ok last comp out inn) 28 (0, 0))).heap.size = w3.heap.size + 1 := Array.size_push ..
  have hX5 := (Below.heap_alloc w3 (.cells (ihA S win dict has size skip id ssz p K ok last comp out inn) 28 (0, 0)) B hs3).trans hR3.out
  obtain ⟨w5, hw5⟩ : ∃ w5, w3.alloc (.cells (ihA S win dict has size skip id ssz p K ok last comp out inn) 28 (0, 0)) = w5 := ⟨_, rfl⟩
  rw [hw5] at hb5 hR5 hz5 hX5 ⊢
  have hw0' := hb4.size
  rw [hB5] at hR5 hz5 hs3 hw0' ⊢
  clear hw5 hB5 hR3 hb4
  refine (st_good (H.out.below hb5) hG).mono ?_
  rintro e w6 ⟨rfl, hb6⟩
  have HX3 : Hid (w6.heap[B]? = some (.cells (ihA S win dict has size skip id ssz p K false false false 0 0) 28 (0, 0))) := Lib.hid ((hb6.block B (by omega)).trans hX5)
  have HX5 : Hid (w6.heap[B5]? = some (.cells (ihA S win dict has size skip id ssz p K ok last comp out inn) 28 (0, 0))) := Lib.hid ((hb6.block B5 (by omega)).trans hR5)
  have hb7 := hb5.trans (hb6.mono hb5.size)
  have hs6 : B5 < w6.heap.size := by have := hb6.size; omega
  have hw6 := hb5.size
  clear hb6 hb5 hR5 hX5 hz5
  have heq := eql28 S win dict has size skip id ssz p K ok last comp out inn
  have hsub : IntKind.i64.wrap ((l.length : Int) - (p : Int)) = (l.length : Int) - (p : Int) := by rw [IntKind.wrap_i64]; omega
  have hle : ((l.length - p : Nat) : Int) = (l.length : Int) - (p : Int) := by omega
  have x0 := cell_of_row w6 B5 0 _ 28 (0, 0) HX5.out
  have x1 := cell_of_row w6 B5 1 _ 28 (0, 0) HX5.out
  have x2 := cell_of_row w6 B5 2 _ 28 (0, 0) HX5.out
  have x3 := cell_of_row w6 B5 3 _ 28 (0, 0) HX5.out
  have x4 := cell_of_row w6 B5 4 _ 28 (0, 0) HX5.out
  have x5 := cell_of_row w6 B5 5 _ 28 (0, 0) HX5.out
  have x6 := cell_of_row w6 B5 6 _ 28 (0, 0) HX5.out
  have x7 := cell_of_row w6 B5 7 _ 28 (0, 0) HX5.out
  have x8 := cell_of_row w6 B5 8 _ 28 (0, 0) HX5.out
  have x9 := cell_of_row w6 B5 9 _ 28 (0, 0) HX5.out
  have x10 := cell_of_row w6 B5 10 _ 28 (0, 0) HX5.out
  have x11 := cell_of_row w6 B5 11 _ 28 (0, 0) HX5.out
  have x12 := cell_of_row w6 B5 12 _ 28 (0, 0) HX5.out
  have x13 := cell_of_row w6 B5 13 _ 28 (0, 0) HX5.out
  have x14 := cell_of_row w6 B5 14 _ 28 (0, 0) HX5.out
  have y8 := cell_of_row w6 B 8 _ 28 (0, 0) HX3.out
  have hBs : B < w6.heap.size := by omega
  go_wp2_with fail
  go_ret
  exact ⟨rfl, hb7.alloc hb7.size _⟩

set_option maxHeartbeats 800000 in
theorem stripLaw_walk {w : World} {A : Option Addr} {n c : Nat} {l : List UInt8} {T0 T1 : TypeId} {a0 a1 : Addr} (h : HdIn w A n c l T0 T1 a0 a1) :
    Calls Tryd.prog 4 #[.slice A n c] w fun e w' => e = .returned (.bool true) ∧ Below w.heap.size w w' := by
  by_cases hn : n ≤ 2147483647
  · rcases header_cases l with hO | ⟨hT, hB⟩ | ⟨x, X, h8, hT, hG⟩ | ⟨S, win, dict, has, size, p, K, hp5, hp, hT, hG⟩
    · exact stripLaw_open h hn hO
    · exact stripLaw_bad h hn hT hB
    · exact stripLaw_good h hn false 0 0 false 0 true x X 8 false false false false 0 0 h8 hT hG
    · exact stripLaw_good h hn S win dict has size false 0 0 p K _ _ _ _ _ hp hT hG
  · have hm := h.sl.most
    have hc := h.sl.cap
    clear h
    go_enter Tryd.func4, Tryd.ntmps4
    go_wp2
    go_ret
    exact ⟨rfl, Below.refl _ _⟩
end Go.Proofs.YtiobfiepapflaaaDoor
