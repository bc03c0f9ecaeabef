/-
  What a digest holds behind each step of Write: plain lemmas. Conditions: those of each.
-/
import Derived.Test.YtkpmhdpeglbacaaDoorDig
namespace Go.Proofs.YtkpmhdpeglbacaaDoor
open Go.RowKit

theorem w8_append (l b : List UInt8) (i : Nat) (h : i + 8 ≤ l.length) : w8 (l ++ b) i = w8 l i := by
  unfold w8
  rw [List.drop_append_of_le_length (by omega), List.take_append_of_le_length (by simp; omega)]
theorem st_append (s : S4) (l b : List UInt8) (h : 32 ≤ l.length) : st s (l ++ b) = st s l := by
  unfold st
  rw [w8_append l b 0 (by omega), w8_append l b 8 (by omega), w8_append l b 16 (by omega), w8_append l b 24 (by omega)]
theorem stN_append (s : S4) (l b : List UInt8) (k : Nat) (h : 32 * k ≤ l.length) : stN s (l ++ b) k = stN s l k := by
  induction k with
  | zero => rfl
  | succ k ih =>
    show st (stN s (l ++ b) k) ((l ++ b).drop (32 * k)) = st (stN s l k) (l.drop (32 * k))
    rw [ih (by omega), List.drop_append_of_le_length (by omega), st_append _ _ _ (by simp; omega)]
theorem stN_add (s : S4) (l : List UInt8) (a k : Nat) : stN s l (a + k) = stN (stN s l a) (l.drop (32 * a)) k := by
  induction k with
  | zero => rfl
  | succ k ih =>
    show st (stN s l (a + k)) (l.drop (32 * (a + k))) = st (stN (stN s l a) (l.drop (32 * a)) k) ((l.drop (32 * a)).drop (32 * k))
    rw [ih, List.drop_drop, show 32 * a + 32 * k = 32 * (a + k) by omega]

theorem splice_cells (s : S4) (tot : Int) (mem cs : List UInt8) (n : Int) (off : Nat) (hm : mem.length = 32) (h : off + cs.length ≤ 32) :
    splice (digL s tot mem n) (5 + off) (Lib.byteCells cs) = digL s tot (splice mem off cs) n := by
  unfold splice digL
  have e1 : ∀ (a b c d e : Value) (R : List Value), (a :: b :: c :: d :: e :: R).take (5 + off) = a :: b :: c :: d :: e :: R.take off := by
    intro a b c d e R
    rw [show 5 + off = off + 5 by omega]
    rfl
  have e2 : ∀ (a b c d e : Value) (R : List Value) (k : Nat), (a :: b :: c :: d :: e :: R).drop (5 + off + k) = R.drop (off + k) := by
    intro a b c d e R k
    rw [show 5 + off + k = (off + k) + 5 by omega]
    rfl
  have hl : (Lib.byteCells mem).length = 32 := by rw [Lib.byteCells_length]; exact hm
  rw [e1, e2, List.take_append_of_le_length (by omega), List.drop_append_of_le_length (by rw [Lib.byteCells_length]; omega)]
  simp [Lib.byteCells, List.map_take, List.map_drop]
theorem length_splice32 (mem cs : List UInt8) (off : Nat) (hm : mem.length = 32) (h : off + cs.length ≤ 32) : (splice mem off cs).length = 32 := by
  rw [length_splice _ _ _ (by omega), hm]
theorem Dig.splice_ {w' : World} {D : Nat} {s : S4} {tot : Int} {mem cs : List UInt8} {n : Int} {off : Nat} (hm : mem.length = 32) (h : off + cs.length ≤ 32)
    (hh : Hid (w'.heap[D]? = some (.cells (splice (digL s tot mem n) (5 + off) (Lib.byteCells cs)).toArray 61 (0, 0)))) : Dig w' D s tot (splice mem off cs) n := by
  have := hh.out
  rw [splice_cells s tot mem cs n off hm h] at this
  exact ⟨this, length_splice32 mem cs off hm h⟩

/-- copy(d.mem[off:], b) -/
theorem wpList_copy_dig {w : World} {ops : Array Oper} {rest : List Oper} {o : Oper} {a : Act} {Q : Exit → Act → World → Prop} (hgd : o.guard = none) (d s : Operand)
    (ho : o.op = .call { callee := .builtin .copy, args := #[d, s], argTypes := #[22, 22] }) {D : Nat} {st : S4} {tot nn : Int} {mem b : List UInt8} {A : Option Addr} {n c : Nat} (hd : Hid (Dig w D st tot mem nn)) (hs : Sl w D A n c b)
    (off dl dc k : Nat) (hdv : a.eval d = .slice (some ⟨D, 5 + off, none⟩) dl dc) (hsv : a.eval s = .slice A n c) (hdl : off + dl = 32) (hk : k = min n dl)
    (h : ∀ w', Hid (Dig w' D st tot (splice mem off (b.take dl)) nn) → Below D w w' → wpList Tryd.prog ops Q rest (a.put o.dst (.int .i64 k)) w') :
    wpList Tryd.prog ops Q (o :: rest) a w := by
  have hl := hs.len
  have hL : (Lib.byteCells (b.take dl)).length = k := by rw [Lib.byteCells_length]; simp; omega
  refine wpList_copy_splice hgd d s 22 22 ho 5 (by kernel_rfl) (by kernel_rfl) _ _ _ _ _ _ hdv hsv D (5 + off) (digL st tot mem nn) 61 hd.out.1 (Lib.byteCells (b.take dl)) ?_ ?_ ?_ ?_ D w (Below.refl D w) (Nat.le_refl D) ?_
  · rw [hL, hk]
  · intro hp
    refine ⟨rfl, ?_⟩
    have h0 : 0 < n := by rw [hL] at hp; omega
    obtain ⟨g, o', rfl, _, hc⟩ := hs.at_ h0
    refine ⟨_, rfl, fun j v hj => ?_⟩
    have hjl : j < (b.take dl).length := by
      have := (List.getElem?_eq_some_iff.mp hj).1
      rwa [Lib.byteCells_length] at this
    have hjb : j < b.length := by simp at hjl; omega
    rw [add_some]
    rw [hc j hjb]
    rw [← hj]
    simp only [Lib.byteCells, List.getElem?_map]
    rw [List.getElem?_take_of_lt (by simp at hjl; omega)]
    simp [hjb]
  · rw [hL]
    simp [digL, Lib.byteCells, hd.out.2]
    omega
  · intro v hv
    simp only [Lib.byteCells, List.mem_map] at hv
    obtain ⟨x, _, rfl⟩ := hv
    rfl
  · intro w' h1 h2
    rw [hL]
    exact h w' (Lib.hid (Dig.splice_ hd.out.2 (by simp; omega) h1)) h2

/-- bytes that do not fill the block -/
theorem dg_fits {w : World} {D q dl : Nat} {l b mem : List UInt8} {s : S4} (HM : Hid (mem.length = 32)) (HQ : Hid (q = l.length % 32)) (HS : Hid (s = stN s0 l (l.length / 32))) (HM0 : Hid (mem.take q = l.drop (32 * (l.length / 32)))) (h : q + b.length < 32) (hdl : q + dl = 32) {tot n : Int}
    (hd : Dig w D s tot (splice mem q (b.take dl)) n) (ht : tot = (l.length : Int) + (b.length : Int)) (hn : n = (q : Int) + (b.length : Int)) : Dg w D (l ++ b) := by
  have hq := HQ.out
  have hm := HM.out
  have e1 : (l ++ b).length / 32 = l.length / 32 := by simp; omega
  have e2 : (l ++ b).length % 32 = q + b.length := by simp; omega
  rw [List.take_of_length_le (by omega)] at hd
  refine ⟨splice mem q b, ?_, ?_⟩
  · rw [e1, e2, List.drop_append_of_le_length (by omega), ← HM0.out]
    unfold splice
    rw [← List.append_assoc, List.take_append_of_le_length (by simp; omega)]
    exact List.take_of_length_le (by simp; omega)
  · rw [e1, e2, stN_append _ _ _ _ (by omega), ← HS.out]
    rw [show (((l ++ b).length : Nat) : Int) = tot by rw [ht]; simp, show ((q + b.length : Nat) : Int) = n by rw [hn]; simp]
    exact hd
/-- the rest that does not fill a block -/
theorem dg_rest {w : World} {D : Nat} {L b1 mem : List UInt8} {K0 kk : Nat} {s1 : S4} (HB : Hid (b1 = L.drop (32 * K0))) (HS : Hid (s1 = stN s0 L K0)) (hK : 32 * K0 ≤ L.length) (HK : Hid (32 * (b1.length / 32) = kk)) {tot n : Int}
    (hd : Dig w D (stN s1 b1 (b1.length / 32)) tot (splice mem 0 ((b1.drop kk).take 32)) n) (ht : tot = (L.length : Int)) (hn : n = ((b1.length - kk : Nat) : Int)) : Dg w D L := by
  have hk := HK.out
  have hl : b1.length = L.length - 32 * K0 := by rw [HB.out]; simp
  have e1 : L.length / 32 = K0 + b1.length / 32 := by omega
  have e2 : L.length % 32 = b1.length - kk := by omega
  have hr : (b1.drop kk).take 32 = L.drop (32 * (L.length / 32)) := by
    rw [List.take_of_length_le (by simp; omega), HB.out, List.drop_drop, ← hk]
    congr 1
    omega
  have hlr : (L.drop (32 * (L.length / 32))).length = b1.length - kk := by simp; omega
  rw [hr] at hd
  refine ⟨splice mem 0 (L.drop (32 * (L.length / 32))), ?_, ?_⟩
  · rw [e2]
    unfold splice
    simp only [List.take_zero, List.nil_append]
    rw [List.take_append_of_le_length (by omega)]
    exact List.take_of_length_le (by omega)
  · rw [e2, ← hn, ← ht]
    rw [show stN s0 L (L.length / 32) = stN s1 b1 (b1.length / 32) by rw [e1, stN_add, ← HS.out, ← HB.out]]
    exact hd
end Go.Proofs.YtkpmhdpeglbacaaDoor
