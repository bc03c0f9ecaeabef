/-
  What a call leaves as it is: all blocks but some. Plain lemmas; and fse.byteReader's methods. Conditions: those of each.
-/
import Derived.Test.YthkklojjpgjiiaaFmtCodeT11
import Derived.Test.YthkklojjpgjiiaaFmtCodeT02
import Derived.Outline
namespace Go.Proofs.YthkklojjpgjiiaaFmt
open Go.RowKit

/-- all blocks but those of S are as they were -/
structure Only (S : Nat → Prop) (w w' : World) : Prop where
  os : w'.os = w.os
  tape : w'.tape = w.tape
  output : w'.output = w.output
  size : w.heap.size ≤ w'.heap.size
  block : ∀ k, ¬ S k → k < w.heap.size → w'.heap[k]? = w.heap[k]?
  rows : ∀ k, k < w.heap.size → ∀ T N, (∃ f, RowF w k T N f) → ∃ f, RowF w' k T N f
theorem RowF.setAny {w : World} {g : Nat} {T : TypeId} {N : Nat} {f : Nat → Value} (h : RowF w g T N f) (p : Addr) (v : Value) : ∃ f', RowF (w.setCell p v) g T N f' := by
  by_cases hp : p.block = g
  · obtain ⟨arr, h1, h2, h3⟩ := h
    by_cases hs : p.spot.isSome = true
    · exact ⟨f, arr, by simp [World.setCell, Array.getElem?_modify, hp, h1, hs], h2, h3⟩
    · refine ⟨fun k => (arr.setIfInBounds p.off v).getD k undef, arr.setIfInBounds p.off v, by simp [World.setCell, Array.getElem?_modify, hp, h1, hs], by simp [h2], fun j hj => ?_⟩
      dsimp only
      rw [Array.getD_eq_getD_getElem?, Array.getElem?_eq_getElem (by simp; omega)]
      rfl
  · exact ⟨f, h.other v hp⟩
section
variable {S S' : Nat → Prop} {w w1 w2 : World}
theorem Only.refl (S : Nat → Prop) (w : World) : Only S w w := ⟨rfl, rfl, rfl, Nat.le_refl _, fun _ _ _ => rfl, fun _ _ _ _ h => h⟩
theorem Only.trans (h : Only S w w1) (h2 : Only S w1 w2) : Only S w w2 :=
  ⟨h2.os.trans h.os, h2.tape.trans h.tape, h2.output.trans h.output, Nat.le_trans h.size h2.size, fun k h3 h4 => (h2.block k h3 (Nat.lt_of_lt_of_le h4 h.size)).trans (h.block k h3 h4), fun k hk T N hr => h2.rows k (Nat.lt_of_lt_of_le hk h.size) T N (h.rows k hk T N hr)⟩
theorem Only.mono (h : Only S w w1) (hs : ∀ k, S k → S' k) : Only S' w w1 := ⟨h.os, h.tape, h.output, h.size, fun k h3 h4 => h.block k (fun h5 => h3 (hs k h5)) h4, h.rows⟩
theorem Only.alloc (h : Only S w w1) (o : Obj) : Only S w (w1.alloc o) :=
  h.trans ⟨rfl, rfl, rfl, by simp, fun k _ hk => Below.heap_alloc w1 o k hk, fun _ _ _ _ ⟨f, hf⟩ => ⟨f, hf.alloc o⟩⟩
theorem Only.set_ (h : Only S w w1) {p : Addr} (hp : S p.block) (v : Value) : Only S w (w1.setCell p v) :=
  h.trans ⟨rfl, rfl, rfl, by simp, fun k hk _ => setCell_heap v (fun e => hk (by rw [e]; exact hp)), fun _ _ _ _ ⟨f, hf⟩ => hf.setAny p v⟩
theorem Only.drewN (h : Only S w w1) (q : Nat) : Only S w (w1.drewN q) := ⟨h.os, h.tape, h.output, h.size, h.block, h.rows⟩
theorem Only.of_below (h : Below w.heap.size w w1) (_hB : ∀ k, k < w.heap.size → ¬ S k → k < w.heap.size) : Only S w w1 := ⟨h.os, h.tape, h.output, h.size, fun k _ h2 => h.block k h2, fun k hk _ _ ⟨f, hf⟩ => ⟨f, hf.same (h.block k hk)⟩⟩
theorem Only.below (h : Only S w w1) (B : Nat) (hB : ∀ k, k < B → ¬ S k) (hs : B ≤ w.heap.size) : Below B w w1 := ⟨h.os, h.tape, h.output, h.size, fun k hk => h.block k (hB k hk) (by omega)⟩
theorem Only.row (h : Only S w w1) {g : Nat} {T : TypeId} {N : Nat} {f : Nat → Value} (hr : RowF w g T N f) (hg : ¬ S g) : RowF w1 g T N f := hr.same (h.block g hg hr.lt)
end
theorem updV_same (f : Nat → Value) (p : Nat) (v : Value) : updV f p v p = v := by unfold updV; rw [if_pos rfl]
theorem updV_ne (f : Nat → Value) (p k : Nat) (v : Value) (h : k ≠ p) : updV f p v k = f k := by unfold updV; rw [if_neg h]

set_option maxHeartbeats 800000 in
theorem remain_any (A : Option Addr) (n c : Nat) (off : Int) (w : World) (h0 : 0 ≤ off) (h1 : off ≤ (n : Int)) (hn : n ≤ 1000000) :
    Calls Tryf.prog 57 #[.agg #[.slice A n c, .int .i64 off]] w fun e w' => e = .returned (.int .i64 ((n : Int) - off)) ∧ Below w.heap.size w w' := by
  have hw : IntKind.i64.wrap ((n : Int) - off) = (n : Int) - off := by rw [IntKind.wrap_i64]; omega
  go_enter Tryf.func57, Tryf.ntmps57
  go_wp2_with fail
  go_ret
  exact ⟨rfl, below_new w _⟩

theorem or32 (a b : Nat) (ha : a < 4294967296) (hb : b < 4294967296) : bits .or .u32 (a : Int) (b : Int) = ((a ||| b : Nat) : Int) := by
  have hx : a ||| b < 2 ^ 32 := Nat.or_lt_two_pow (by omega) (by omega)
  have h1 : (BitVec.ofInt 32 (a : Int)).toNat = a := by
    rw [BitVec.ofInt_natCast, BitVec.toNat_ofNat]; exact Nat.mod_eq_of_lt (by omega)
  have h2 : (BitVec.ofInt 32 (b : Int)).toNat = b := by
    rw [BitVec.ofInt_natCast, BitVec.toNat_ofNat]; exact Nat.mod_eq_of_lt (by omega)
  show IntKind.u32.wrap ((BitVec.ofInt 32 (a : Int) ||| BitVec.ofInt 32 (b : Int)).toNat : Int) = _
  rw [BitVec.toNat_or, h1, h2]
  have : IntKind.u32.wrap ((a ||| b : Nat) : Int) = ((a ||| b : Nat) : Int) := by simp [IntKind.wrap, IntKind.bits, IntKind.signed]; omega
  exact this
theorem or_shift (a b k : Nat) (ha : a < 2 ^ k) : a ||| (b * 2 ^ k) = a + b * 2 ^ k := by
  have := Nat.two_pow_add_eq_or_of_lt ha b
  rw [Nat.or_comm, Nat.mul_comm b, ← this, Nat.add_comm]

set_option maxRecDepth 100000 in
set_option maxHeartbeats 1600000 in
theorem uint32_any {w : World} {B : Nat} {A : Option Addr} {n c : Nat} {l : List UInt8} (hs : Sl w B A n c l) (hB : B ≤ w.heap.size) (i : Nat) (hi : i + 4 ≤ n) (hn : n ≤ 1000000) (ii : Int) (hii : ii = i) :
    Calls Tryf.prog 58 #[.agg #[.slice A n c, .int .i64 ii]] w fun e w' => e = .returned (.int .u32 (numF l (8 * i) 32 : Nat)) ∧ Below w.heap.size w w' := by
  subst hii
  have hnl := hs.len
  obtain ⟨g, o, rfl, hg, hc⟩ := hs.at_ (by omega)
  have hcc := hs.cap
  have hcm := hs.most
  have hw := numF_word l i
  obtain ⟨b0, hb0⟩ : ∃ b, (l.getD i 0).toNat = b := ⟨_, rfl⟩
  obtain ⟨b1, hb1⟩ : ∃ b, (l.getD (i + 1) 0).toNat = b := ⟨_, rfl⟩
  obtain ⟨b2, hb2⟩ : ∃ b, (l.getD (i + 2) 0).toNat = b := ⟨_, rfl⟩
  obtain ⟨b3, hb3⟩ : ∃ b, (l.getD (i + 3) 0).toNat = b := ⟨_, rfl⟩
  have hcell : ∀ j, i + j < n → w.cell? ⟨g, o + (i + j), none⟩ = some (.int .u8 ((l.getD (i + j) 0).toNat : Nat)) := fun j hj => by
    rw [hc (i + j) (by omega), List.getD_eq_getElem?_getD, List.getElem?_eq_getElem (by omega), Option.getD_some]
  obtain ⟨w1, hw1⟩ : ∃ w1, w.alloc (.cells #[.slice (some ⟨g, o, none⟩) n c, .int .i64 (i : Nat)] 87) = w1 := ⟨_, rfl⟩
  have hbw : Below w.heap.size w w1 := by rw [← hw1]; exact below_new _ _
  have r1 : w1.heap[w.heap.size]? = some (.cells #[.slice (some ⟨g, o, none⟩) n c, .int .i64 (i : Nat)] 87 (0, 0)) := by rw [← hw1]; exact heap_alloc_new _ _
  have q0 : w1.cell? ⟨w.heap.size, 0, none⟩ = some (.slice (some ⟨g, o, none⟩) n c) := cell_of_row w1 _ 0 _ _ (0, 0) r1
  have q1 : w1.cell? ⟨w.heap.size, 1, none⟩ = some (.int .i64 (i : Nat)) := cell_of_row w1 _ 1 _ _ (0, 0) r1
  have k0 : w1.cell? ⟨g, o + i, none⟩ = some (.int .u8 (b0 : Nat)) := by rw [hbw.cell (p := ⟨g, o + i, none⟩) (by show g < w.heap.size; omega), ← hb0]; exact hcell 0 (by omega)
  have k1 : w1.cell? ⟨g, o + i + 1, none⟩ = some (.int .u8 (b1 : Nat)) := by rw [hbw.cell (p := ⟨g, o + i + 1, none⟩) (by show g < w.heap.size; omega), ← hb1, Nat.add_assoc]; exact hcell 1 (by omega)
  have k2 : w1.cell? ⟨g, o + i + 2, none⟩ = some (.int .u8 (b2 : Nat)) := by rw [hbw.cell (p := ⟨g, o + i + 2, none⟩) (by show g < w.heap.size; omega), ← hb2, Nat.add_assoc]; exact hcell 2 (by omega)
  have k3 : w1.cell? ⟨g, o + i + 3, none⟩ = some (.int .u8 (b3 : Nat)) := by rw [hbw.cell (p := ⟨g, o + i + 3, none⟩) (by show g < w.heap.size; omega), ← hb3, Nat.add_assoc]; exact hcell 3 (by omega)
  rw [hb0, hb1, hb2, hb3] at hw
  have l0 : b0 < 256 := by rw [← hb0]; exact UInt8.toNat_lt _
  have l1 : b1 < 256 := by rw [← hb1]; exact UInt8.toNat_lt _
  have l2 : b2 < 256 := by rw [← hb2]; exact UInt8.toNat_lt _
  have l3 : b3 < 256 := by rw [← hb3]; exact UInt8.toNat_lt _
  have hne : ¬ c = i := by omega
  have e1 : bits .or .u32 (b0 : Int) ((b1 : Int) * 256) = ((b0 + b1 * 256 : Nat) : Int) := by
    rw [show (b1 : Int) * 256 = ((b1 * 256 : Nat) : Int) by simp, or32 _ _ (by omega) (by omega), show b1 * 256 = b1 * 2 ^ 8 by rfl, or_shift b0 b1 8 (by omega)]
  have e2 : bits .or .u32 ((b0 + b1 * 256 : Nat) : Int) ((b2 : Int) * 65536) = ((b0 + b1 * 256 + b2 * 65536 : Nat) : Int) := by
    rw [show (b2 : Int) * 65536 = ((b2 * 65536 : Nat) : Int) by simp, or32 _ _ (by omega) (by omega), show b2 * 65536 = b2 * 2 ^ 16 by rfl, or_shift _ b2 16 (by omega)]
  have e3 : bits .or .u32 ((b0 + b1 * 256 + b2 * 65536 : Nat) : Int) ((b3 : Int) * 16777216) = ((b0 + b1 * 256 + b2 * 65536 + b3 * 16777216 : Nat) : Int) := by
    rw [show (b3 : Int) * 16777216 = ((b3 * 16777216 : Nat) : Int) by simp, or32 _ _ (by omega) (by omega), show b3 * 16777216 = b3 * 2 ^ 24 by rfl, or_shift _ b3 24 (by omega)]
  have HW := Lib.hid hw
  have HBW := Lib.hid hbw
  have HS := Lib.hid hs
  have E1 := Lib.hid e1
  have E2 := Lib.hid e2
  have E3 := Lib.hid e3
  clear hs hc hcell hw hbw r1 hb0 hb1 hb2 hb3 hnl e1 e2 e3
  go_enter Tryf.func58, Tryf.ntmps58
  go_wp2_with fail
  go_ret
  refine ⟨?_, HBW.out⟩
  show Ending.returned (.int .u32 (bits .or .u32 (bits .or .u32 (bits .or .u32 (b0 : Int) ((b1 : Int) * 256)) ((b2 : Int) * 65536)) ((b3 : Int) * 16777216))) = _
  rw [E1.out, E2.out, E3.out, HW.out]
  exact congrArg (fun z : Nat => Ending.returned (Value.int .u32 (z : Int))) (by omega)

set_option maxHeartbeats 800000 in
theorem advance_any (D o : Nat) (off m : Int) (w : World) (h0 : 0 ≤ off) (h1 : off ≤ 1000000) (hm0 : 0 ≤ m) (hm1 : m ≤ 1000000) (hc : w.cell? ⟨D, o + 1, none⟩ = some (.int .i64 off)) (hf : w.frozen? ⟨D, o + 1, none⟩ = false) :
    Calls Tryf.prog 59 #[.pointer (some ⟨D, o, none⟩), .int .u64 m] w fun e w' => e = .returned (.tuple #[]) ∧ w' = w.setCell ⟨D, o + 1, none⟩ (.int .i64 (off + m)) := by
  go_enter Tryf.func59, Tryf.ntmps59
  go_wp2_with fail
  first
    | (refine bodyPost_end (results_none rfl _ _ _) rfl ?_; exact ⟨rfl, rfl⟩)
    | fail

set_option maxHeartbeats 800000 in
theorem brInit_any (D o : Nat) (v0 v1 : Value) (A : Option Addr) (n c : Nat) (w : World) (hc : w.cell? ⟨D, o, none⟩ = some v0) (hf : w.frozen? ⟨D, o, none⟩ = false) (hc1 : w.cell? ⟨D, o + 1, none⟩ = some v1) (hf1 : w.frozen? ⟨D, o + 1, none⟩ = false) :
    Calls Tryf.prog 56 #[.pointer (some ⟨D, o, none⟩), .slice A n c] w fun e w' => e = .returned (.tuple #[]) ∧ w' = (w.setCell ⟨D, o, none⟩ (.slice A n c)).setCell ⟨D, o + 1, none⟩ (.int .i64 0) := by
  go_enter Tryf.func56, Tryf.ntmps56
  go_wp2_with fail
  first
    | (refine bodyPost_end (results_none rfl _ _ _) rfl ?_; exact ⟨rfl, rfl⟩)
    | fail

set_option maxHeartbeats 800000 in
theorem unread_any {w : World} {B : Nat} {A : Option Addr} {n c : Nat} {l : List UInt8} (hs : Sl w B A n c l) (hB : B ≤ w.heap.size) (i : Nat) (hi : i ≤ n) (ii : Int) (hii : ii = i) :
    Calls Tryf.prog 64 #[.agg #[.slice A n c, .int .i64 ii]] w fun e w' => ∃ A2, e = .returned (.slice A2 (n - i) (c - i)) ∧ Sl w' B A2 (n - i) (c - i) (l.drop i) ∧ Below w.heap.size w w' := by
  subst hii
  have hsl := hs.nextA i hi
  obtain ⟨A4, hA4⟩ : ∃ A4, (if c = i then A else Option.map (fun x => x.add i) A) = A4 := ⟨_, rfl⟩
  rw [hA4] at hsl
  have HSL := Lib.hid hsl
  have hcc := hs.cap
  have hcm := hs.most
  clear hsl hs
  go_enter Tryf.func64, Tryf.ntmps64
  go_wp2_with fail
  go_ret
  exact ⟨A4, rfl, HSL.out.below ((below_new w _).mono hB), below_new w _⟩
end Go.Proofs.YthkklojjpgjiiaaFmt
