/-
  spec.zBack.read: a number of some bits, read backwards. Conditions: those of each.
  spec.zTable.first: the first state. Conditions: those of the theorem.
-/
import Derived.Test.YthkklojjpgjiiaaFmtCodeT06
namespace Go.Proofs.YthkklojjpgjiiaaFmt
open Go.RowKit

/-- a bit, 0 ahead of the first byte -/
def bitI (l : List UInt8) (i : Int) : Nat := if 0 ≤ i then bitAt l i.toNat else 0
/-- the number of k bits below a place, the highest first -/
def numB (l : List UInt8) (left : Int) : Nat → Nat
  | 0 => 0
  | k + 1 => 2 * numB l left k + bitI l (left - (k + 1 : Nat))
theorem bitI_lt (l : List UInt8) (i : Int) : bitI l i < 2 := by
  unfold bitI
  split
  · exact bitAt_lt _ _
  · omega
theorem numB_lt (l : List UInt8) (left : Int) : ∀ k, numB l left k < 2 ^ k
  | 0 => by simp [numB]
  | k + 1 => by
    have := numB_lt l left k
    have hb := bitI_lt l (left - (k + 1 : Nat))
    unfold numB
    rw [Nat.pow_succ]
    omega
theorem zBit_int {w : World} {B : Nat} {A : Option Addr} {n c : Nat} {l : List UInt8} (hs : Sl w B A n c l) (i : Int) (hn : n ≤ 1000000) :
    Calls Tryf.prog 54 #[.slice A n c, .int .i64 i] w fun e w' => e = .returned (.int .i64 (bitI l i)) ∧ w = w' := by
  unfold bitI
  split
  · exact zBit_any hs i i.toNat (by omega) hn
  · exact zBit_out hs i (.inl (by omega)) hn
def Back (g : Nat) (A : Option Addr) (n c : Nat) (w : World) (i : Int) (w' : World) : Prop :=
  w'.heap[g]? = some (.cells #[.slice A n c, .int .i64 i] 133 (0, 0)) ∧ w'.heap.size = w.heap.size ∧ Below g w w' ∧ ∀ k, k ≠ g → w'.heap[k]? = w.heap[k]?
theorem Back.refl {g : Nat} {A : Option Addr} {n c : Nat} {i : Int} {w : World} (h : w.heap[g]? = some (.cells #[.slice A n c, .int .i64 i] 133 (0, 0))) : Back g A n c w i w := ⟨h, rfl, Below.refl _ _, fun _ _ => rfl⟩
theorem Back.drewN {g : Nat} {A : Option Addr} {n c : Nat} {i : Int} {w w' : World} (h : Back g A n c w i w') (q : Nat) : Back g A n c w i (w'.drewN q) := ⟨h.1, h.2.1, ⟨h.2.2.1.os, h.2.2.1.tape, h.2.2.1.output, h.2.2.1.size, h.2.2.1.block⟩, h.2.2.2⟩
theorem Back.set_ {g : Nat} {A : Option Addr} {n c : Nat} {i : Int} {w w' : World} (h : Back g A n c w i w') (j : Int) : Back g A n c w j (w'.setCell ⟨g, 1, none⟩ (.int .i64 j)) := by
  refine ⟨?_, by rw [← h.2.1]; simp, h.2.2.1.setCell (p := ⟨g, 1, none⟩) (Nat.le_refl g) _, fun k hk => ?_⟩
  · have h1 := h.1
    simp [World.setCell, Array.getElem?_modify, h1]
  · rw [← h.2.2.2 k hk]
    simp [World.setCell, Array.getElem?_modify, Ne.symm hk]
theorem Back.trans {g : Nat} {A : Option Addr} {n c : Nat} {i j : Int} {w w1 w2 : World} (h : Back g A n c w i w1) (h2 : Back g A n c w1 j w2) : Back g A n c w j w2 :=
  ⟨h2.1, h2.2.1.trans h.2.1, h.2.2.1.trans h2.2.2.1, fun k hk => (h2.2.2.2 k hk).trans (h.2.2.2 k hk)⟩
theorem Back.sl {B g : Nat} {A : Option Addr} {n c n' c' : Nat} {i : Int} {A' : Option Addr} {l : List UInt8} {w w' : World} (h : Back g A n c w i w') (hs : Sl w B A' n' c' l) (hB : B ≤ g) : Sl w' B A' n' c' l := hs.below (h.2.2.1.mono hB)

set_option maxRecDepth 100000 in
set_option maxHeartbeats 1600000 in
theorem back_read {w : World} {B g : Nat} {A : Option Addr} {n c : Nat} {l : List UInt8} (hs : Sl w B A n c l) (hn : n ≤ 1000000) (m : Nat) (i mi : Int) (hi : -1000000 ≤ i ∧ i ≤ 100000000) (hm : m ≤ 32) (hmi : mi = m) (hg : B ≤ g)
    (hR : w.heap[g]? = some (.cells #[.slice A n c, .int .i64 i] 133 (0, 0))) :
    Calls Tryf.prog 55 #[.pointer (some ⟨g, 0, none⟩), .int .i64 mi] w fun e w' => e = .returned (.int .i64 (numB l i m)) ∧ Back g A n c w (i - (m : Nat)) w' := by
  have HS := Lib.hid hs
  have HM := Lib.hid hmi
  have HR := Lib.hid hR
  have HI := Lib.hid hi
  clear hs hmi hR hi
  go_enter Tryf.func55, Tryf.ntmps55
  go_wp2
  go_loopw [5, 7] (fun v j wr => ∃ (k : Nat) (p : Int), k ≤ m ∧ v = .int .i64 (numB l i k) ∧ j = .int .i64 k ∧ Hid (p = i - (k : Nat)) ∧ Back g A n c w p wr) (fun _ j _ => m - (intOf j).toNat)
  case atStart => exact ⟨0, i, Nat.zero_le _, rfl, rfl, Lib.hid (by simp), Back.refl HR.out⟩
  case round =>
    obtain ⟨k, p, hk, rfl, rfl, HP, hB⟩ := hrel
    have q0 : wr.cell? ⟨g, 0, none⟩ = some (.slice A n c) := cell_of_row wr g 0 _ _ (0, 0) hB.1
    have q1 : wr.cell? ⟨g, 1, none⟩ = some (.int .i64 p) := cell_of_row wr g 1 _ _ (0, 0) hB.1
    have f1 : wr.frozen? ⟨g, 1, none⟩ = false := frozen_of_row wr g 1 _ _ hB.1
    have HBK := Lib.hid hB
    clear hB
    by_cases hlt : k < m
    · have hlt' : (k : Int) < mi := by have := HM.out; omega
      obtain ⟨p1, hp1⟩ : ∃ p1 : Int, p - 1 = p1 := ⟨_, rfl⟩
      have ep : wrap64 (p - 1) = p1 := by have := HP.out; have := HI.out; unfold wrap64; omega
      have HP1 : Hid (p1 = i - ((k + 1 : Nat) : Int)) := Lib.hid (by have := HP.out; omega)
      obtain ⟨b, hb⟩ : ∃ b, bitI l p1 = b := ⟨_, rfl⟩
      obtain ⟨y, hy⟩ : ∃ y : Nat, numB l i k = y := ⟨_, rfl⟩
      have KB : Hid (∀ w0, Sl w0 B A n c l → Calls Tryf.prog 54 #[.slice A n c, .int .i64 p1] w0 fun e w' => e = .returned (.int .i64 b) ∧ w0 = w') := Lib.hid (fun w0 h => by rw [← hb]; exact zBit_int h p1 hn)
      have HBN := HBK.out.set_ p1
      obtain ⟨ws, hws⟩ : ∃ x, wr.setCell ⟨g, 1, none⟩ (.int .i64 p1) = x := ⟨_, rfl⟩
      rw [hws] at HBN
      have q2 : ws.cell? ⟨g, 0, none⟩ = some (.slice A n c) := cell_of_row ws g 0 _ _ (0, 0) HBN.1
      have q3 : ws.cell? ⟨g, 1, none⟩ = some (.int .i64 p1) := cell_of_row ws g 1 _ _ (0, 0) HBN.1
      have HSS := Lib.hid (HBN.sl HS.out hg)
      have HBW := Lib.hid HBN
      rw [hy]
      have HY := Lib.hid hy
      have HBB := Lib.hid hb
      have eo : bits .or .i64 (wrap64 ((y : Int) * 2)) (b : Int) = ((numB l i (k + 1) : Nat) : Int) := by
        have hy2 := numB_lt l i k
        have hb2 := bitI_lt l p1
        have hp : 2 ^ k ≤ 2 ^ 31 := Nat.pow_le_pow_right (by omega) (by omega)
        rw [show numB l i (k + 1) = 2 * numB l i k + bitI l (i - (k + 1 : Nat)) from rfl, ← HP1.out, hb, hy]
        rw [hy] at hy2
        rw [hb] at hb2
        rw [show wrap64 ((y : Int) * 2) = ((2 * y : Nat) : Int) by unfold wrap64; omega, or_i64 (2 * y) b (by omega) (by omega)]
        have := Nat.two_pow_add_eq_or_of_lt (i := 1) (b := b) (by omega) y
        rw [show 2 ^ 1 * y = 2 * y by omega] at this
        rw [this]
      have EO := Lib.hid eo
      clear hb hy hp1 HBN eo
      go_wp2_with fail
      go_region_with (go_at_call 54; refine (KB.out _ (HSS.out.drewN _)).mono ?_; rintro en w2 ⟨rfl, rfl⟩)
      all_goals
        go_wp2_with fail
        refine ⟨⟨k + 1, p1, by omega, congrArg (Value.int .i64) EO.out, by go_num, HP1, HBW.out.drewN 1⟩, ?_⟩
        simp [intOf]
        omega
    · obtain rfl : k = m := by omega
      have hge : mi ≤ (k : Int) := by have := HM.out; omega
      go_wp2_with fail
      go_ret
      exact ⟨rfl, by have := HBK.out; rwa [HP.out] at this⟩
end Go.Proofs.YthkklojjpgjiiaaFmt
namespace Go.Proofs.YthkklojjpgjiiaaFmt
open Go.RowKit

theorem below_new (w : World) (o : Obj) : Below w.heap.size w (w.alloc o) := (Below.refl _ _).alloc (Nat.le_refl _) _
set_option maxRecDepth 100000 in
set_option maxHeartbeats 1600000 in
theorem table_first {w : World} {B g : Nat} {A : Option Addr} {n c : Nat} {l : List UInt8} (hs : Sl w B A n c l) (hn : n ≤ 1000000) (m : Nat) (i mi : Int) (S : Value) (hi : -1000000 ≤ i ∧ i ≤ 100000000) (hm : m ≤ 32) (hmi : mi = m) (hg : B ≤ g)
    (hR : w.heap[g]? = some (.cells #[.slice A n c, .int .i64 i] 133 (0, 0))) (hlt : g < w.heap.size) :
    Calls Tryf.prog 40 #[.agg #[.int .i64 mi, S], .pointer (some ⟨g, 0, none⟩)] w fun e w' => e = .returned (.int .i64 (numB l i m)) ∧ w'.heap[g]? = some (.cells #[.slice A n c, .int .i64 (i - (m : Nat))] 133 (0, 0)) ∧ Below g w w' ∧ ∀ k, k ≠ g → k < w.heap.size → w'.heap[k]? = w.heap[k]? := by
  subst hmi
  have hR1 : (w.alloc (.cells #[.int .i64 (m : Nat), S] 127)).heap[g]? = some (.cells #[.slice A n c, .int .i64 i] 133 (0, 0)) := (Below.heap_alloc w _ g hlt).trans hR
  have K := Lib.hid (back_read (hs.below ((below_new w (.cells #[.int .i64 (m : Nat), S] 127)).mono (by omega))) hn m i (m : Nat) hi hm rfl hg hR1)
  have HB := Lib.hid (below_new w (.cells #[.int .i64 (m : Nat), S] 127))
  clear hR1 hs hR
  go_enter Tryf.func40, Tryf.ntmps40
  go_wp2_with fail
  refine K.out.mono ?_
  rintro e w2 ⟨rfl, hb⟩
  have HBK := Lib.hid hb
  clear hb
  go_wp2_with fail
  go_ret
  exact ⟨rfl, HBK.out.1, (HB.out.mono (Nat.le_of_lt hlt)).trans HBK.out.2.2.1, fun k hk hkl => (HBK.out.2.2.2 k hk).trans (Below.heap_alloc w _ k hkl)⟩
end Go.Proofs.YthkklojjpgjiiaaFmt
