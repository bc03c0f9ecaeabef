/-
  A digest in memory: what it holds when it has taken up bytes. Plain lemmas; conditions: those of each.
-/
import Derived.Test.YtkpmhdpeglbacaaDoorHashRel
import Derived.Lib.UnsafeStr
import Derived.Laws.CopyOwn
import Derived.Deep.RegionWith
namespace Go.Proofs.YtkpmhdpeglbacaaDoor
open Go.RowKit

/-- the cells of a digest -/
def digL (s : S4) (tot : Int) (mem : List UInt8) (n : Int) : List Value :=
  .int .u64 s.1 :: .int .u64 s.2.1 :: .int .u64 s.2.2.1 :: .int .u64 s.2.2.2 :: .int .u64 tot :: (Lib.byteCells mem ++ [.int .i64 n])
/-- block D is a digest -/
def Dig (w : World) (D : Nat) (s : S4) (tot : Int) (mem : List UInt8) (n : Int) : Prop :=
  w.heap[D]? = some (.cells (digL s tot mem n).toArray 61 (0, 0)) ∧ mem.length = 32

section
variable {w w' : World} {D : Nat} {s : S4} {tot : Int} {mem : List UInt8} {n : Int}
theorem Dig.lt (h : Dig w D s tot mem n) : D < w.heap.size := by
  rcases Nat.lt_or_ge D w.heap.size with hlt | hge
  · exact hlt
  · have := h.1; rw [Array.getElem?_eq_none hge] at this; cases this
theorem Dig.cell (h : Dig w D s tot mem n) (i : Nat) : w.cell? ⟨D, i, none⟩ = (digL s tot mem n)[i]? := by
  rw [cell_of_row w D i _ 61 (0, 0) h.1]
  simp
theorem Dig.frozen (h : Dig w D s tot mem n) (i : Nat) : w.frozen? ⟨D, i, none⟩ = false := by
  have h1 := h.1
  simp [World.frozen?, h1]
theorem Dig.set_ (h : Dig w D s tot mem n) (i : Nat) (u : Value) : (w.setCell ⟨D, i, none⟩ u).heap[D]? = some (.cells ((digL s tot mem n).set i u).toArray 61 (0, 0)) := by
  have h1 := h.1
  simp [World.setCell, Array.getElem?_modify, h1]
theorem Dig.c0 (h : Dig w D s tot mem n) : w.cell? ⟨D, 0, none⟩ = some (.int .u64 s.1) := (h.cell 0).trans rfl
theorem Dig.c1 (h : Dig w D s tot mem n) : w.cell? ⟨D, 1, none⟩ = some (.int .u64 s.2.1) := (h.cell 1).trans rfl
theorem Dig.c2 (h : Dig w D s tot mem n) : w.cell? ⟨D, 2, none⟩ = some (.int .u64 s.2.2.1) := (h.cell 2).trans rfl
theorem Dig.c3 (h : Dig w D s tot mem n) : w.cell? ⟨D, 3, none⟩ = some (.int .u64 s.2.2.2) := (h.cell 3).trans rfl
theorem Dig.c4 (h : Dig w D s tot mem n) : w.cell? ⟨D, 4, none⟩ = some (.int .u64 tot) := (h.cell 4).trans rfl
theorem Dig.c37 (h : Dig w D s tot mem n) : w.cell? ⟨D, 37, none⟩ = some (.int .i64 n) := by
  rw [h.cell 37]
  have hl : (Lib.byteCells mem).length = 32 := by rw [Lib.byteCells_length]; exact h.2
  show (Lib.byteCells mem ++ [Value.int .i64 n])[32]? = _
  rw [List.getElem?_append_right (by omega), hl]
  rfl
theorem Dig.mem_ (h : Dig w D s tot mem n) (i : Nat) (hi : i < mem.length) : w.cell? ⟨D, 5 + i, none⟩ = some (.int .u8 (mem[i]).toNat) := by
  rw [h.cell, show 5 + i = i + 5 by omega]
  show (Lib.byteCells mem ++ [Value.int .i64 n])[i]? = _
  rw [List.getElem?_append_left (by rw [Lib.byteCells_length]; exact hi)]
  simp [Lib.byteCells, hi]
theorem Dig.keep (h : Dig w D s tot mem n) (hb : w'.heap[D]? = w.heap[D]?) : Dig w' D s tot mem n := ⟨hb.trans h.1, h.2⟩
theorem Dig.below {B : Nat} (h : Dig w D s tot mem n) (hb : Below B w w') (hD : D < B) : Dig w' D s tot mem n := h.keep (hb.block D hD)
theorem Dig.drew (h : Dig w D s tot mem n) : Dig w.drew D s tot mem n := h
theorem Dig.drewN (h : Dig w D s tot mem n) (k : Nat) : Dig (w.drewN k) D s tot mem n := h
theorem Dig.s0 (h : Dig w D s tot mem n) (x : Int) : Dig (w.setCell ⟨D, 0, none⟩ (.int .u64 x)) D (x, s.2.1, s.2.2.1, s.2.2.2) tot mem n := ⟨h.set_ 0 _, h.2⟩
theorem Dig.s1 (h : Dig w D s tot mem n) (x : Int) : Dig (w.setCell ⟨D, 1, none⟩ (.int .u64 x)) D (s.1, x, s.2.2.1, s.2.2.2) tot mem n := ⟨h.set_ 1 _, h.2⟩
theorem Dig.s2 (h : Dig w D s tot mem n) (x : Int) : Dig (w.setCell ⟨D, 2, none⟩ (.int .u64 x)) D (s.1, s.2.1, x, s.2.2.2) tot mem n := ⟨h.set_ 2 _, h.2⟩
theorem Dig.s3 (h : Dig w D s tot mem n) (x : Int) : Dig (w.setCell ⟨D, 3, none⟩ (.int .u64 x)) D (s.1, s.2.1, s.2.2.1, x) tot mem n := ⟨h.set_ 3 _, h.2⟩
theorem Dig.s4 (h : Dig w D s tot mem n) (x : Int) : Dig (w.setCell ⟨D, 4, none⟩ (.int .u64 x)) D s x mem n := ⟨h.set_ 4 _, h.2⟩
theorem Dig.s37 (h : Dig w D s tot mem n) (x : Int) : Dig (w.setCell ⟨D, 37, none⟩ (.int .i64 x)) D s tot mem x := by
  refine ⟨?_, h.2⟩
  rw [h.set_ 37]
  have hl : (Lib.byteCells mem).length = 32 := by rw [Lib.byteCells_length]; exact h.2
  have e : (digL s tot mem n).set 37 (.int .i64 x) = digL s tot mem x := by
    show _ :: _ :: _ :: _ :: _ :: ((Lib.byteCells mem ++ [Value.int .i64 n]).set 32 (.int .i64 x)) = _
    rw [List.set_append_right _ _ (by omega), hl]
    rfl
  rw [e]
/-- the array of 32 bytes as a slice, from a place on -/
theorem Dig.sl (h : Dig w D s tot mem n) (B : Nat) (hB : D < B) (i j c : Nat) (hij : i ≤ j) (hj : j ≤ 32) (hc : j - i ≤ c) (hc2 : c ≤ 32) : Sl w B (some ⟨D, 5 + i, none⟩) (j - i) c ((mem.take j).drop i) := by
  refine ⟨by simp [h.2]; omega, hc, by unfold maxLen; omega, .inr ⟨D, 5 + i, rfl, hB, fun k hk => ?_⟩⟩
  simp [h.2] at hk
  have := h.mem_ (i + k) (by rw [h.2]; omega)
  rw [← Nat.add_assoc] at this
  rw [this]
  simp
end

/-- the digest has taken up the bytes l -/
def Dg (w : World) (D : Nat) (l : List UInt8) : Prop :=
  ∃ mem : List UInt8, mem.take (l.length % 32) = l.drop (32 * (l.length / 32)) ∧ Dig w D (stN s0 l (l.length / 32)) l.length mem ((l.length % 32 : Nat) : Int)
theorem Dg.keep {w w' : World} {D : Nat} {l : List UInt8} (h : Dg w D l) (hb : w'.heap[D]? = w.heap[D]?) : Dg w' D l := by
  obtain ⟨mem, h1, h2⟩ := h
  exact ⟨mem, h1, h2.keep hb⟩
theorem Dg.below {w w' : World} {D B : Nat} {l : List UInt8} (h : Dg w D l) (hb : Below B w w') (hD : D < B) : Dg w' D l := h.keep (hb.block D hD)
theorem Dg.lt {w : World} {D : Nat} {l : List UInt8} (h : Dg w D l) : D < w.heap.size := by
  obtain ⟨mem, _, h2⟩ := h
  exact h2.lt

theorem drewN_below (w : World) (k : Nat) : Below w.heap.size w (w.drewN k) := by
  induction k with
  | zero => exact Below.refl _ _
  | succ k ih => exact ⟨rfl, rfl, rfl, Nat.le_refl _, fun _ _ => rfl⟩
theorem below_dig4 (D : Nat) (w wr : World) (a b c d : Value) (h : Below D w wr) :
    Below D w ((((wr.setCell ⟨D, 0, none⟩ a).setCell ⟨D, 1, none⟩ b).setCell ⟨D, 2, none⟩ c).setCell ⟨D, 3, none⟩ d) :=
  (((h.setCell (p := ⟨D, 0, none⟩) (Nat.le_refl D) a).setCell (p := ⟨D, 1, none⟩) (Nat.le_refl D) b).setCell (p := ⟨D, 2, none⟩) (Nat.le_refl D) c).setCell (p := ⟨D, 3, none⟩) (Nat.le_refl D) d
theorem below_dig6 (D : Nat) (w : World) (a b c d e f : Value) :
    Below D w ((((((w.setCell ⟨D, 0, none⟩ a).setCell ⟨D, 1, none⟩ b).setCell ⟨D, 2, none⟩ c).setCell ⟨D, 3, none⟩ d).setCell ⟨D, 4, none⟩ e).setCell ⟨D, 37, none⟩ f) :=
  ((((((Below.refl D w).setCell (p := ⟨D, 0, none⟩) (Nat.le_refl D) a).setCell (p := ⟨D, 1, none⟩) (Nat.le_refl D) b).setCell (p := ⟨D, 2, none⟩) (Nat.le_refl D) c).setCell (p := ⟨D, 3, none⟩) (Nat.le_refl D) d).setCell (p := ⟨D, 4, none⟩) (Nat.le_refl D) e).setCell (p := ⟨D, 37, none⟩) (Nat.le_refl D) f

set_option maxHeartbeats 1600000 in
/-- Reset makes a digest that has taken up nothing -/
theorem reset_any (D : Nat) (s : S4) (tot n : Int) (mem : List UInt8) (w : World) (hd : Dig w D s tot mem n) (hD : 0 < D)
    (hp : w.cell? ⟨0, 0, none⟩ = some (.int .u64 11400714785074694791)) :
    Calls Tryd.prog 24 #[.pointer (some ⟨D, 0, none⟩)] w fun e w' => e = .returned (.tuple #[]) ∧ Dg w' D [] ∧ Below D w w' := by
  have c0 := hd.c0
  have c1 := hd.c1
  have c2 := hd.c2
  have c3 := hd.c3
  have c4 := hd.c4
  have c5 := hd.c37
  have f0 := hd.frozen 0
  have f1 := hd.frozen 1
  have f2 := hd.frozen 2
  have f3 := hd.frozen 3
  have f4 := hd.frozen 4
  have f5 := hd.frozen 37
  have hne : ¬ 0 = D := by omega
  have hne' : ¬ D = 0 := by omega
  have HD := Lib.hid hd
  clear hd
  go_enter Tryd.func24, Tryd.ntmps24
  go_wp2
  go_end0
  refine ⟨rfl, ⟨mem, rfl, ?_⟩, ?_⟩
  · exact (((((HD.out.s0 _).s1 _).s2 _).s3 _).s4 _).s37 _
  · exact below_dig6 D w _ _ _ _ _ _
end Go.Proofs.YtkpmhdpeglbacaaDoor
