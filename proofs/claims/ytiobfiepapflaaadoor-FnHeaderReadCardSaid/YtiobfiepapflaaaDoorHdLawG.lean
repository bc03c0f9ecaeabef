/-
  The walk of FnHeaderRead at a good header. Conditions: those of each.
-/
import Derived.Test.YtiobfiepapflaaaDoorHdLaw
namespace Go.Proofs.YtiobfiepapflaaaDoor
open Go.RowKit

def BlockTells (l : List UInt8) (R : Array Value) (cls : Int) : Prop :=
  ∀ (A : Option Addr) (n c : Nat) (w : World), Sl w w.heap.size A n c l → Calls Tryd.prog 8 #[.slice A n c] w fun e w' => e = .returned (.tuple #[.agg R, .int .i64 cls]) ∧ Below w.heap.size w w'

set_option maxRecDepth 100000 in
set_option maxHeartbeats 3200000 in
theorem readLaw_good {w : World} {A : Option Addr} {n c : Nat} {l : List UInt8} {T0 T1 : TypeId} {a0 a1 : Addr} (h : HdIn w A n c l T0 T1 a0 a1) (hn : n ≤ 2147483647)
    (S : Bool) (win dict : Int) (has : Bool) (size : Int) (p : Nat) (K : Bool) (ok last comp : Bool) (out inn : Int) (hp : p ≤ l.length) (hp5 : 5 ≤ p)
    (hT : TellsTo l (hdA S win dict has size p K) 0) (hG : DecGood l p (zhA S win dict has size false 0 0 p ok last comp out inn K))
    (r1 r2 r3 : Bool) (r4 r5 : Int) (cls : Int) (hTB : BlockTells (l.drop p) #[.bool r1, .bool r2, .bool r3, .int .i64 r4, .int .i64 r5] cls) (hcls : cls = 2 ∨ (cls = 0 ∧ r1 = ok ∧ r2 = last ∧ r3 = comp ∧ r4 = out ∧ r5 = inn)) :
    Calls Tryd.prog 3 #[.slice A n c] w fun e w' => e = .returned (.bool true) ∧ Below w.heap.size w w' := by
  have K1 := Lib.hid (hT A n c w h.sl)
  obtain rfl := h.sl.len
  have hm := h.sl.most
  have hc := h.sl.cap
  have H := Lib.hid h
  have HTB := Lib.hid hTB
  obtain ⟨g, o, rfl, hgD, _⟩ := h.sl.at_ (by omega)
  clear hT h hTB
  go_enter Tryd.func3, Tryd.ntmps3
  go_wp2_with fail
  refine K1.out.mono ?_
  rintro e w1 ⟨rfl, hb1⟩
  clear K1
  go_wp2_with fail
  have hb2 := hb1.alloc hb1.size (.cells (hdA S win dict has size p K) 28 (0, 0))
  have hR1 : (w1.alloc (.cells (hdA S win dict has size p K) 28 (0, 0))).heap[w1.heap.size]? = some (.cells (hdA S win dict has size p K) 28 (0, 0)) := heap_alloc_new _ _
  have hz1 : (w1.alloc (.cells (hdA S win dict has size p K) 28 (0, 0))).heap.size = w1.heap.size + 1 := Array.size_push ..
  obtain ⟨w2, hw2⟩ : ∃ w2, w1.alloc (.cells (hdA S win dict has size p K) 28 (0, 0)) = w2 := ⟨_, rfl⟩
  have hs1 := hb1.size
  rw [hw2] at hb2 hR1 hz1 ⊢
  obtain ⟨B, hB⟩ : ∃ B, w1.heap.size = B := ⟨_, rfl⟩
  rw [hB] at hR1 hz1 hs1 ⊢
  clear hw2 hb1 hB
  refine (rd_good (H.out.below hb2) hG).mono ?_
  rintro e w3 ⟨rfl, hb3⟩
  have hR3 : Hid (w3.heap[B]? = some (.cells (hdA S win dict has size p K) 28 (0, 0))) := Lib.hid ((hb3.block B (by omega)).trans hR1)
  have hb4 := hb2.trans (hb3.mono hb2.size)
  have hs3 : B < w3.heap.size := by have := hb3.size; omega
  have hw0 := hb2.size
  clear hb3 hb2 hG hR1 hz1
  have HC := Lib.hid hcls
  clear hcls
  have hsl := Lib.hid ((H.out.sl.below hb4).nextA p hp)
  go_upto_region 11 with fail
  obtain ⟨B5, hB5⟩ : ∃ B5, w3.heap.size = B5 := ⟨_, rfl⟩
  have hal := alloc2_facts hB5 (.cells (hdA S win dict has size p K) 28 (0, 0)) (.cells #[.bool ok, .bool last, .bool comp, .int .i64 out, .int .i64 inn] 26 (0, 0))
  obtain ⟨w5, hw5⟩ : ∃ w5, (w3.alloc (.cells (hdA S win dict has size p K) 28 (0, 0))).alloc (.cells #[.bool ok, .bool last, .bool comp, .int .i64 out, .int .i64 inn] 26 (0, 0)) = w5 := ⟨_, rfl⟩
  rw [hw5] at hal ⊢
  obtain ⟨hX5, hX7, hold, hb5⟩ := hal
  have HX3 : Hid (w5.heap[B]? = some (.cells (hdA S win dict has size p K) 28 (0, 0))) := Lib.hid ((hold B (by omega)).trans hR3.out)
  have HX5 := Lib.hid hX5
  have HX7 := Lib.hid hX7
  have hb6 : Below w.heap.size w w5 := hb4.trans (hb5.mono (by omega))
  have hsz5 : B5 + 1 < w5.heap.size := by
    rcases Nat.lt_or_ge (B5 + 1) w5.heap.size with h | h
    · exact h
    · rw [Array.getElem?_eq_none h] at hX7; cases hX7
  have hBB : B < B5 := by omega
  rw [hB5]
  clear hw5 hB5 hold hb5 hX5 hX7 hs3 hR3
  have hneq := neq28 S win dict has size false 0 0 p K false false false 0 0
  have c5 := cell_of_row w5 B 5 _ 28 (0, 0) HX3.out
  have c8 := cell_of_row w5 B 8 _ 28 (0, 0) HX3.out
  have hpi : (p : Int) ≤ (l.length : Int) := by omega
  have hpc : (p : Int) ≤ (c : Int) := by omega
  have hsl5 := (H.out.sl.below hb6).next p hp
  obtain ⟨A6, hA6⟩ : ∃ A6, (if c = p then some (⟨g, o, none⟩ : Addr) else some ⟨g, o + p, none⟩) = A6 := ⟨_, rfl⟩
  rw [hA6] at hsl5
  have HSL5 := Lib.hid hsl5
  clear hsl5 hsl
  have x0 := cell_of_row w5 B5 0 _ 28 (0, 0) HX5.out
  have x1 := cell_of_row w5 B5 1 _ 28 (0, 0) HX5.out
  have x2 := cell_of_row w5 B5 2 _ 28 (0, 0) HX5.out
  have x3 := cell_of_row w5 B5 3 _ 28 (0, 0) HX5.out
  have x4 := cell_of_row w5 B5 4 _ 28 (0, 0) HX5.out
  have x5 := cell_of_row w5 B5 5 _ 28 (0, 0) HX5.out
  have x6 := cell_of_row w5 B5 6 _ 28 (0, 0) HX5.out
  have x7 := cell_of_row w5 B5 7 _ 28 (0, 0) HX5.out
  have x8 := cell_of_row w5 B5 8 _ 28 (0, 0) HX5.out
  have x9 := cell_of_row w5 B5 9 _ 28 (0, 0) HX5.out
  have x10 := cell_of_row w5 B5 10 _ 28 (0, 0) HX5.out
  have x11 := cell_of_row w5 B5 11 _ 28 (0, 0) HX5.out
  have x12 := cell_of_row w5 B5 12 _ 28 (0, 0) HX5.out
  have x13 := cell_of_row w5 B5 13 _ 28 (0, 0) HX5.out
  have x14 := cell_of_row w5 B5 14 _ 28 (0, 0) HX5.out
  have y0 := cell_of_row w5 B 0 _ 28 (0, 0) HX3.out
  have y1 := cell_of_row w5 B 1 _ 28 (0, 0) HX3.out
  have y2 := cell_of_row w5 B 2 _ 28 (0, 0) HX3.out
  have y3 := cell_of_row w5 B 3 _ 28 (0, 0) HX3.out
  have y4 := cell_of_row w5 B 4 _ 28 (0, 0) HX3.out
  have y5 := cell_of_row w5 B 5 _ 28 (0, 0) HX3.out
  have y6 := cell_of_row w5 B 6 _ 28 (0, 0) HX3.out
  have y7 := cell_of_row w5 B 7 _ 28 (0, 0) HX3.out
  have y8 := cell_of_row w5 B 8 _ 28 (0, 0) HX3.out
  have y9 := cell_of_row w5 B 9 _ 28 (0, 0) HX3.out
  have y10 := cell_of_row w5 B 10 _ 28 (0, 0) HX3.out
  have y11 := cell_of_row w5 B 11 _ 28 (0, 0) HX3.out
  have y12 := cell_of_row w5 B 12 _ 28 (0, 0) HX3.out
  have y13 := cell_of_row w5 B 13 _ 28 (0, 0) HX3.out
  have y14 := cell_of_row w5 B 14 _ 28 (0, 0) HX3.out
  clear c5 c8
  go_upto_if 38 with fail
  clear x0 x1 x2 x3 x4 x5 x6 x7 x8 x9 x10 x11 x12 x13 x14 y0 y1 y2 y3 y4 y6 y7 y9 y10 y11 y12 y13 y14
  go_wp2_with fail
  have hw5 := hb6.size
  refine (HTB.out A6 _ _ w5 (HSL5.out.more hw5)).mono ?_
  rintro e w6 ⟨rfl, hb7⟩
  have HX8 : Hid (w6.heap[B5 + 1]? = some (.cells #[.bool ok, .bool last, .bool comp, .int .i64 out, .int .i64 inn] 26 (0, 0))) := Lib.hid ((hb7.block (B5 + 1) hsz5).trans HX7.out)
  have hb8 := hb6.trans (hb7.mono hw5)
  have hz6 : B5 + 1 < w6.heap.size := by have := hb7.size; omega
  clear hb7 y5 y8 hneq hA6
  rcases HC.out with rfl | ⟨rfl, rfl, rfl, rfl, rfl, rfl⟩
  · go_wp2_with fail
    go_ret
    exact ⟨rfl, hb8.alloc hb8.size _⟩
  · have heq := eql26 r1 r2 r3 r4 r5
    have z0 := cell_of_row w6 (B5 + 1) 0 _ 26 (0, 0) HX8.out
    have z1 := cell_of_row w6 (B5 + 1) 1 _ 26 (0, 0) HX8.out
    have z2 := cell_of_row w6 (B5 + 1) 2 _ 26 (0, 0) HX8.out
    have z3 := cell_of_row w6 (B5 + 1) 3 _ 26 (0, 0) HX8.out
    have z4 := cell_of_row w6 (B5 + 1) 4 _ 26 (0, 0) HX8.out
    go_wp2_with fail
    go_ret
    exact ⟨rfl, hb8.alloc hb8.size _⟩
set_option maxRecDepth 100000 in
set_option maxHeartbeats 3200000 in
theorem readLaw_skip {w : World} {A : Option Addr} {n c : Nat} {l : List UInt8} {T0 T1 : TypeId} {a0 a1 : Addr} (h : HdIn w A n c l T0 T1 a0 a1) (hn : n ≤ 2147483647)
    (x X : Int) (hp : 8 ≤ l.length)
    (hT : TellsTo l (hdS x X) 0) (hG : DecGood l 8 (zhA false 0 0 false 0 true x X 8 false false false 0 0 false)) :
    Calls Tryd.prog 3 #[.slice A n c] w fun e w' => e = .returned (.bool true) ∧ Below w.heap.size w w' := by
  have K1 := Lib.hid (hT A n c w h.sl)
  obtain rfl := h.sl.len
  have hm := h.sl.most
  have hc := h.sl.cap
  have H := Lib.hid h
  obtain ⟨g, o, rfl, hgD, _⟩ := h.sl.at_ (by omega)
  clear hT h
  go_enter Tryd.func3, Tryd.ntmps3
  go_wp2_with fail
  refine K1.out.mono ?_
  rintro e w1 ⟨rfl, hb1⟩
  clear K1
  go_wp2_with fail
  have hb2 := hb1.alloc hb1.size (.cells (hdS x X) 28 (0, 0))
  have hR1 : (w1.alloc (.cells (hdS x X) 28 (0, 0))).heap[w1.heap.size]? = some (.cells (hdS x X) 28 (0, 0)) := heap_alloc_new _ _
  have hz1 : (w1.alloc (.cells (hdS x X) 28 (0, 0))).heap.size = w1.heap.size + 1 := Array.size_push ..
  obtain ⟨w2, hw2⟩ : ∃ w2, w1.alloc (.cells (hdS x X) 28 (0, 0)) = w2 := ⟨_, rfl⟩
  have hs1 := hb1.size
  rw [hw2] at hb2 hR1 hz1 ⊢
  obtain ⟨B, hB⟩ : ∃ B, w1.heap.size = B := ⟨_, rfl⟩
  rw [hB] at hR1 hz1 hs1 ⊢
  clear hw2 hb1 hB
  refine (rd_good (H.out.below hb2) hG).mono ?_
  rintro e w3 ⟨rfl, hb3⟩
  have hR3 : Hid (w3.heap[B]? = some (.cells (hdS x X) 28 (0, 0))) := Lib.hid ((hb3.block B (by omega)).trans hR1)
  have hb4 := hb2.trans (hb3.mono hb2.size)
  have hs3 : B < w3.heap.size := by have := hb3.size; omega
  have hw0 := hb2.size
  clear hb3 hb2 hG hR1 hz1
  go_upto_region 11 with fail
  obtain ⟨B5, hB5⟩ : ∃ B5, w3.heap.size = B5 := ⟨_, rfl⟩
  have hal := alloc2_facts hB5 (.cells (hdS x X) 28 (0, 0)) (.cells bkZ 26 (0, 0))
  obtain ⟨w5, hw5⟩ : ∃ w5, (w3.alloc (.cells (hdS x X) 28 (0, 0))).alloc (.cells bkZ 26 (0, 0)) = w5 := ⟨_, rfl⟩
  rw [hw5] at hal ⊢
  obtain ⟨hX5, hX7, hold, hb5⟩ := hal
  have HX3 : Hid (w5.heap[B]? = some (.cells (hdS x X) 28 (0, 0))) := Lib.hid ((hold B (by omega)).trans hR3.out)
  have HX5 := Lib.hid hX5
  have HX7 := Lib.hid hX7
  have hb6 : Below w.heap.size w w5 := hb4.trans (hb5.mono (by omega))
  have hsz5 : B5 + 1 < w5.heap.size := by
    rcases Nat.lt_or_ge (B5 + 1) w5.heap.size with h | h
    · exact h
    · rw [Array.getElem?_eq_none h] at hX7; cases hX7
  have hBB : B < B5 := by omega
  rw [hB5]
  clear hw5 hB5 hold hb5 hX5 hX7 hs3 hR3
  have hneq := neq28 false 0 0 false 0 true x X 8 false false false false 0 0
  have c5 := cell_of_row w5 B 5 _ 28 (0, 0) HX3.out
  have c8 := cell_of_row w5 B 8 _ 28 (0, 0) HX3.out
  have x0 := cell_of_row w5 B5 0 _ 28 (0, 0) HX5.out
  have x1 := cell_of_row w5 B5 1 _ 28 (0, 0) HX5.out
  have x2 := cell_of_row w5 B5 2 _ 28 (0, 0) HX5.out
  have x3 := cell_of_row w5 B5 3 _ 28 (0, 0) HX5.out
  have x4 := cell_of_row w5 B5 4 _ 28 (0, 0) HX5.out
  have x5 := cell_of_row w5 B5 5 _ 28 (0, 0) HX5.out
  have x6 := cell_of_row w5 B5 6 _ 28 (0, 0) HX5.out
  have x7 := cell_of_row w5 B5 7 _ 28 (0, 0) HX5.out
  have x8 := cell_of_row w5 B5 8 _ 28 (0, 0) HX5.out
  have x9 := cell_of_row w5 B5 9 _ 28 (0, 0) HX5.out
  have x10 := cell_of_row w5 B5 10 _ 28 (0, 0) HX5.out
  have x11 := cell_of_row w5 B5 11 _ 28 (0, 0) HX5.out
  have x12 := cell_of_row w5 B5 12 _ 28 (0, 0) HX5.out
  have x13 := cell_of_row w5 B5 13 _ 28 (0, 0) HX5.out
  have x14 := cell_of_row w5 B5 14 _ 28 (0, 0) HX5.out
  have y0 := cell_of_row w5 B 0 _ 28 (0, 0) HX3.out
  have y1 := cell_of_row w5 B 1 _ 28 (0, 0) HX3.out
  have y2 := cell_of_row w5 B 2 _ 28 (0, 0) HX3.out
  have y3 := cell_of_row w5 B 3 _ 28 (0, 0) HX3.out
  have y4 := cell_of_row w5 B 4 _ 28 (0, 0) HX3.out
  have y5 := cell_of_row w5 B 5 _ 28 (0, 0) HX3.out
  have y6 := cell_of_row w5 B 6 _ 28 (0, 0) HX3.out
  have y7 := cell_of_row w5 B 7 _ 28 (0, 0) HX3.out
  have y8 := cell_of_row w5 B 8 _ 28 (0, 0) HX3.out
  have y9 := cell_of_row w5 B 9 _ 28 (0, 0) HX3.out
  have y10 := cell_of_row w5 B 10 _ 28 (0, 0) HX3.out
  have y11 := cell_of_row w5 B 11 _ 28 (0, 0) HX3.out
  have y12 := cell_of_row w5 B 12 _ 28 (0, 0) HX3.out
  have y13 := cell_of_row w5 B 13 _ 28 (0, 0) HX3.out
  have y14 := cell_of_row w5 B 14 _ 28 (0, 0) HX3.out
  clear c5 c8
  have z0 := cell_of_row w5 (B5 + 1) 0 _ 26 (0, 0) HX7.out
  go_upto_if 38 with fail
  clear x0 x1 x2 x3 x4 x5 x6 x7 x8 x9 x10 x11 x12 x13 x14 y0 y1 y2 y3 y4 y6 y7 y9 y10 y11 y12 y13 y14
  go_wp2_with fail
  go_ret
  exact ⟨rfl, hb6⟩

theorem i64_andN (a b : Nat) (ha : a < 2 ^ 62) (hb : b < 2 ^ 62) : bits .and .i64 (a : Int) (b : Int) = ((a &&& b : Nat) : Int) :=
  (bits_nat .i64 62 (by decide) (fun n h0 h1 => by rw [IntKind.wrap_i64]; omega) a b ha hb).1
theorem bk_raw {l : List UInt8} (h3 : ¬ l.length < 3) : ∃ (ok last comp : Bool) (out inn : Int), blkOf l = (ok, last, comp, out, inn) ∧ ∃ (r1 r2 r3 : Bool) (r4 r5 cls : Int), BlockTells l #[.bool r1, .bool r2, .bool r3, .int .i64 r4, .int .i64 r5] cls ∧ (cls = 2 ∨ (cls = 0 ∧ r1 = ok ∧ r2 = last ∧ r3 = comp ∧ r4 = out ∧ r5 = inn)) := by
  obtain ⟨H, hH⟩ : ∃ H, Lib.leNat (l.take 3) = H := ⟨_, rfl⟩
  have hHb : H < 16777216 := by
    have := leNat_lt (l.take 3)
    rw [hH, show (l.take 3).length = 3 by simp; omega] at this
    exact this
  have ha1 : bits .and .i64 (H : Int) 1 = ((H % 2 : Nat) : Int) := by
    have := i64_andN H 1 (by omega) (by omega)
    rw [Nat.and_one_is_mod] at this
    exact this
  have ha3 : bits .and .i64 ((H : Int) / 2) 3 = ((H / 2 % 4 : Nat) : Int) := by
    have := i64_andN (H / 2) 3 (by omega) (by omega)
    rw [show H / 2 &&& 3 = H / 2 % 4 from Nat.and_two_pow_sub_one_eq_mod (H / 2) 2] at this
    exact this
  have hb : blkOf l = if H / 2 % 4 = 3 then (false, decide (H % 2 = 1), false, 0, 0) else if H / 2 % 4 = 1 then (true, decide (H % 2 = 1), true, ((H / 8 : Nat) : Int), 1) else if H / 2 % 4 = 2 then (true, decide (H % 2 = 1), true, 0, ((H / 8 : Nat) : Int)) else (true, decide (H % 2 = 1), false, ((H / 8 : Nat) : Int), ((H / 8 : Nat) : Int)) := by
    unfold blkOf
    rw [if_neg h3, hH]
  have hbeq : (((H % 2 : Nat) : Int) == 1) = decide (H % 2 = 1) := by
    rcases Nat.mod_two_eq_zero_or_one H with e | e <;> rw [e] <;> rfl
  have hdv : ((H / 8 : Nat) : Int) = (H : Int) / 8 := by omega
  rcases (show H / 2 % 4 = 0 ∨ H / 2 % 4 = 1 ∨ H / 2 % 4 = 2 ∨ H / 2 % 4 = 3 by omega) with e | e | e | e <;> rw [e] at hb ha3
  · exact ⟨_, _, _, _, _, hb, _, _, _, _, _, 0, fun A n c w hs => block_raw A n c l w hs (by omega) H hH _ ha1 ha3, .inr ⟨rfl, rfl, hbeq, rfl, hdv.symm, hdv.symm⟩⟩
  · exact ⟨_, _, _, _, _, hb, _, _, _, _, _, 2, fun A n c w hs => block_open A n c l w hs (by omega) H hH _ ha1 _ ha3 (by decide) (by decide), .inl rfl⟩
  · exact ⟨_, _, _, _, _, hb, _, _, _, _, _, 0, fun A n c w hs => block_comp A n c l w hs (by omega) H hH _ ha1 ha3, .inr ⟨rfl, rfl, hbeq, rfl, rfl, hdv.symm⟩⟩
  · exact ⟨_, _, _, _, _, hb, _, _, _, _, _, 2, fun A n c w hs => block_open A n c l w hs (by omega) H hH _ ha1 _ ha3 (by decide) (by decide), .inl rfl⟩
theorem bk_any (l : List UInt8) : ∃ (ok last comp : Bool) (out inn : Int), blkOf l = (ok, last, comp, out, inn) ∧ ∃ (r1 r2 r3 : Bool) (r4 r5 cls : Int), BlockTells l #[.bool r1, .bool r2, .bool r3, .int .i64 r4, .int .i64 r5] cls ∧ (cls = 2 ∨ (cls = 0 ∧ r1 = ok ∧ r2 = last ∧ r3 = comp ∧ r4 = out ∧ r5 = inn)) := by
  by_cases h3 : l.length < 3
  · exact ⟨false, false, false, 0, 0, if_pos h3, false, false, false, 0, 0, 0, fun A n c w hs => block_lt3 A n c w (by rw [← hs.len]; exact h3), .inr ⟨rfl, rfl, rfl, rfl, rfl, rfl⟩⟩
  · exact bk_raw h3

set_option maxHeartbeats 800000 in
theorem readLaw_walk {w : World} {A : Option Addr} {n c : Nat} {l : List UInt8} {T0 T1 : TypeId} {a0 a1 : Addr} (h : HdIn w A n c l T0 T1 a0 a1) :
    Calls Tryd.prog 3 #[.slice A n c] w fun e w' => e = .returned (.bool true) ∧ Below w.heap.size w w' := by
  by_cases hn : n ≤ 2147483647
  · rcases header_cases l with hO | ⟨hT, hB⟩ | ⟨x, X, h8, hT, hG⟩ | ⟨S, win, dict, has, size, p, K, hp5, hp, hT, hG⟩
    · exact readLaw_open h hn hO
    · exact readLaw_bad h hn hT hB
    · exact readLaw_skip h hn x X h8 hT hG
    · obtain ⟨ok, last, comp, out, inn, hb, r1, r2, r3, r4, r5, cls, hTB, hcls⟩ := bk_any (l.drop p)
      rw [hb] at hG
      exact readLaw_good h hn S win dict has size p K ok last comp out inn hp hp5 hT hG r1 r2 r3 r4 r5 cls hTB hcls
  · have hm := h.sl.most
    have hc := h.sl.cap
    clear h
    go_enter Tryd.func3, Tryd.ntmps3
    go_wp2
    go_ret
    exact ⟨rfl, Below.refl _ _⟩
end Go.Proofs.YtiobfiepapflaaaDoor
