/-
  The walks of FnHeaderRead and FnHeaderStripped: they return true. Condition: the two sentinels stand where the program lays them.
-/
import Derived.Test.YtiobfiepapflaaaDoorHdCases
import Derived.Test.YtiobfiepapflaaaDoorRead
import Derived.Test.YtiobfiepapflaaaDoorBlock
import Derived.Laws.StructEq
namespace Go.Proofs.YtiobfiepapflaaaDoor
open Go.RowKit

theorem neq28 (s : Bool) (win dict : Int) (has : Bool) (size : Int) (skip : Bool) (id ssz hs : Int) (ck ok last comp : Bool) (out inn : Int) (w : World) :
    (binOp .neq 28 (.agg (ihA s win dict has size skip id ssz hs ck ok last comp out inn)) (.agg (ihA s win dict has size skip id ssz hs ck ok last comp out inn))).run Tryd.prog w = .ok (.bool false) w := by
  have u28 := Tryd.underlying28
  have u26 := Tryd.underlying26
  have u4 := Tryd.underlying4
  have u23 := Tryd.underlying23
  have u24 := Tryd.underlying24
  have u2 := Tryd.underlying2
  have u3 := Tryd.underlying3
  go_simp
theorem eql26 (ok last comp : Bool) (out inn : Int) (w : World) :
    (binOp .eql 26 (.agg #[.bool ok, .bool last, .bool comp, .int .i64 out, .int .i64 inn]) (.agg #[.bool ok, .bool last, .bool comp, .int .i64 out, .int .i64 inn])).run Tryd.prog w = .ok (.bool true) w := by
  have u26 := Tryd.underlying26
  have u4 := Tryd.underlying4
  have u3 := Tryd.underlying3
  go_simp

/-- what the statement's walk is told: the bytes, the two sentinels -/
structure HdIn (w : World) (A : Option Addr) (n c : Nat) (l : List UInt8) (T0 T1 : TypeId) (a0 a1 : Addr) : Prop where
  sl : Sl w w.heap.size A n c l
  e0 : w.cell? ⟨0, 0, none⟩ = some (.iface T0 (.pointer (some a0)))
  e1 : w.cell? ⟨1, 0, none⟩ = some (.iface T1 (.pointer (some a1)))
theorem HdIn.two {w : World} {A : Option Addr} {n c : Nat} {l : List UInt8} {T0 T1 : TypeId} {a0 a1 : Addr} (h : HdIn w A n c l T0 T1 a0 a1) : 1 < w.heap.size := World.block_lt_of_cell? _ _ h.e1
theorem HdIn.below {w w' : World} {A : Option Addr} {n c : Nat} {l : List UInt8} {T0 T1 : TypeId} {a0 a1 : Addr} (h : HdIn w A n c l T0 T1 a0 a1) (hb : Below w.heap.size w w') : HdIn w' A n c l T0 T1 a0 a1 :=
  ⟨(h.sl.below hb).more hb.size, (hb.cell (p := ⟨0, 0, none⟩) (by have := h.two; show 0 < w.heap.size; omega)).trans h.e0, (hb.cell (p := ⟨1, 0, none⟩) h.two).trans h.e1⟩

theorem rd_bad {w : World} {A : Option Addr} {n c : Nat} {l : List UInt8} {T0 T1 : TypeId} {a0 a1 : Addr} (h : HdIn w A n c l T0 T1 a0 a1) (hB : DecBad l) :
    Calls Tryd.prog 7 #[.slice A n c] w fun e w' => e = .returned (.tuple #[.agg hdZ, .bool false]) ∧ Below w.heap.size w w' :=
  read_bad A n c w fun wa D hD hd hb => by
    have hw := h.below hb
    have h2 := h.two
    exact (hB D A n c wa T0 T1 a0 a1 zhZ rfl hd ((h.sl.below hb).more (by omega)) (by omega) hw.e0 hw.e1).mono fun e w' ⟨⟨T, a, he⟩, hb'⟩ => ⟨⟨_, T, a, he⟩, hb'⟩
theorem st_bad {w : World} {A : Option Addr} {n c : Nat} {l : List UInt8} {T0 T1 : TypeId} {a0 a1 : Addr} (h : HdIn w A n c l T0 T1 a0 a1) (hB : DecBad l) :
    Calls Tryd.prog 9 #[.slice A n c] w fun e w' => e = .returned (.tuple #[.agg hdZ, .int .i64 0, .bool false]) ∧ Below w.heap.size w w' :=
  strip_bad A n c w fun wa D hD hd hb => by
    have hw := h.below hb
    have h2 := h.two
    exact (hB D A n c wa T0 T1 a0 a1 zhZ rfl hd ((h.sl.below hb).more (by omega)) (by omega) hw.e0 hw.e1).mono fun e w' ⟨⟨T, a, he⟩, hb'⟩ => ⟨⟨_, T, a, he⟩, hb'⟩
theorem rd_good {w : World} {A : Option Addr} {n c : Nat} {l : List UInt8} {T0 T1 : TypeId} {a0 a1 : Addr} (h : HdIn w A n c l T0 T1 a0 a1) {p : Nat} {s : Bool} {win dict : Int} {has : Bool} {size : Int} {skip : Bool} {id ssz hs : Int} {ok last comp : Bool} {out inn : Int} {ck : Bool}
    (hG : DecGood l p (zhA s win dict has size skip id ssz hs ok last comp out inn ck)) :
    Calls Tryd.prog 7 #[.slice A n c] w fun e w' => e = .returned (.tuple #[.agg (ihA s win dict has size skip id ssz hs ck ok last comp out inn), .bool true]) ∧ Below w.heap.size w w' :=
  read_good A n c w s win dict has size skip id ssz hs ok last comp out inn ck fun wa D hD hd hb => by
    have hw := h.below hb
    have h2 := h.two
    exact (hG D A n c wa _ zhZ rfl hd ((h.sl.below hb).more (by omega)) (by omega) hw.e0).mono fun e w' ⟨⟨A', c', he⟩, hd', hb'⟩ => ⟨⟨_, he⟩, hd', hb'⟩
theorem st_good {w : World} {A : Option Addr} {n c : Nat} {l : List UInt8} {T0 T1 : TypeId} {a0 a1 : Addr} (h : HdIn w A n c l T0 T1 a0 a1) {p : Nat} {s : Bool} {win dict : Int} {has : Bool} {size : Int} {skip : Bool} {id ssz hs : Int} {ok last comp : Bool} {out inn : Int} {ck : Bool}
    (hG : DecGood l p (zhA s win dict has size skip id ssz hs ok last comp out inn ck)) :
    Calls Tryd.prog 9 #[.slice A n c] w fun e w' => e = .returned (.tuple #[.agg (ihA s win dict has size skip id ssz hs ck ok last comp out inn), .int .i64 (l.length - p : Nat), .bool true]) ∧ Below w.heap.size w w' :=
  strip_good A n c w s win dict has size skip id ssz hs ok last comp out inn ck (l.length - p) fun wa D hD hd hb => by
    have hw := h.below hb
    have h2 := h.two
    exact hG D A n c wa _ zhZ rfl hd ((h.sl.below hb).more (by omega)) (by omega) hw.e0

set_option maxRecDepth 100000 in
set_option maxHeartbeats 1600000 in
theorem readLaw_open {w : World} {A : Option Addr} {n c : Nat} {l : List UInt8} {T0 T1 : TypeId} {a0 a1 : Addr} (h : HdIn w A n c l T0 T1 a0 a1) (hn : n ≤ 2147483647) (hT : TellsTo l hdZ 2) :
    Calls Tryd.prog 3 #[.slice A n c] w fun e w' => e = .returned (.bool true) ∧ Below w.heap.size w w' := by
  have K := Lib.hid (hT A n c w h.sl)
  have hm := h.sl.most
  have hc := h.sl.cap
  clear hT h
  go_enter Tryd.func3, Tryd.ntmps3
  go_wp2_with fail
  refine K.out.mono ?_
  rintro e w1 ⟨rfl, hb1⟩
  go_wp2_with fail
  go_ret
  exact ⟨rfl, hb1.alloc hb1.size _⟩
set_option maxRecDepth 100000 in
set_option maxHeartbeats 1600000 in
theorem readLaw_bad {w : World} {A : Option Addr} {n c : Nat} {l : List UInt8} {T0 T1 : TypeId} {a0 a1 : Addr} (h : HdIn w A n c l T0 T1 a0 a1) (hn : n ≤ 2147483647) (hT : TellsTo l hdZ 1) (hB : DecBad l) :
    Calls Tryd.prog 3 #[.slice A n c] w fun e w' => e = .returned (.bool true) ∧ Below w.heap.size w w' := by
  have K := Lib.hid (hT A n c w h.sl)
  have hm := h.sl.most
  have hc := h.sl.cap
  have H := Lib.hid h
  clear hT h
  go_enter Tryd.func3, Tryd.ntmps3
  go_wp2_with fail
  refine K.out.mono ?_
  rintro e w1 ⟨rfl, hb1⟩
  go_wp2_with fail
  have hb2 := hb1.alloc hb1.size (.cells hdZ 28 (0, 0))
  refine (rd_bad (H.out.below hb2) hB).mono ?_
  rintro e w3 ⟨rfl, hb3⟩
  have hb4 := hb2.trans (hb3.mono hb2.size)
  clear hb3 hb2
  go_wp2_with fail
  go_ret
  exact ⟨rfl, hb4.alloc hb4.size _⟩
end Go.Proofs.YtiobfiepapflaaaDoor
