/-
  The walk of FnHeaderWritten, a skippable frame: it returns true. Conditions: those of the theorem.
-/
import Derived.Test.YtiobfiepapflaaaDoorHdTo
import Derived.Test.YtiobfiepapflaaaDoorHdLaw
namespace Go.Proofs.YtiobfiepapflaaaDoor
open Go.RowKit

theorem eqlFS (s : Bool) (win dict : Int) (has : Bool) (size : Int) (skip : Bool) (id ssz hs : Int) (ck ok last comp : Bool) (out inn : Int) (w : World) :
    (binOp .eql 28 (.agg (ihA s win dict has size skip id ssz hs ck ok last comp out inn)) (.agg (ihA s win dict has size skip id ssz hs ck ok last comp out inn))).run Tryd.prog w = .ok (.bool true) w := by
  have u28 := Tryd.underlying28
  have u26 := Tryd.underlying26
  have u4 := Tryd.underlying4
  have u23 := Tryd.underlying23
  have u24 := Tryd.underlying24
  have u2 := Tryd.underlying2
  have u3 := Tryd.underlying3
  go_simp
theorem noBS (s : Bool) (win dict : Int) (has : Bool) (size : Int) (skip : Bool) (id ssz hs : Int) (ck ok last comp : Bool) (out inn : Int) : ∀ (o : Nat) (b : Int), (ihA s win dict has size skip id ssz hs ck ok last comp out inn)[o]? ≠ some (.int .u8 b) := by
  intro o b h
  rcases o with _ | _ | _ | _ | _ | _ | _ | _ | _ | _ | _ | _ | _ | _ | _ | o <;> simp at h
theorem setBS {w : World} {K g o n c i B : Nat} {v : Value} {l : List UInt8} (h : Sl w B (some ⟨g, o, none⟩) n c l) (hg : g ≠ K) : Sl (w.setCell ⟨K, i, none⟩ v) B (some ⟨g, o, none⟩) n c l := by
  obtain ⟨h1, h2, h3, h4⟩ := h
  refine ⟨h1, h2, h3, ?_⟩
  rcases h4 with e | ⟨g', o', e, hB, hc⟩
  · exact .inl e
  · injection e with e
    injection e with e1 e2 e3
    subst e1 e2
    refine .inr ⟨g, o, rfl, hB, fun j hj => ?_⟩
    have h5 := hc j hj
    unfold World.cell? at h5 ⊢
    dsimp only at h5 ⊢
    rw [heap_set_ne hg]
    exact h5
set_option maxRecDepth 100000 in
set_option maxHeartbeats 6400000 in
theorem wrLaw_S {w : World} {T0 T1 : TypeId} {a0 a1 : Addr} (outB : List UInt8) (s : Bool) (win : Int) (dict : Int) (has : Bool) (size : Int) (id : Int) (ssz : Int) (ck : Bool) (hs : Int) (ok last comp : Bool) (out inn : Int) (h0 : 0 ≤ id) (h15 : id ≤ 15) (e0 : w.cell? ⟨0, 0, none⟩ = some (.iface T0 (.pointer (some a0)))) (e1 : w.cell? ⟨1, 0, none⟩ = some (.iface T1 (.pointer (some a1))))
    (K0 : ∀ (wa : World) (Dp : Nat), wa.heap[Dp]? = some (.cells (zhA false 0 0 false 0 true id ssz 0 false false false 0 0 false) 46 (0, 0)) → Calls Tryd.prog 16 #[.pointer (some ⟨Dp, 0, none⟩), .slice none 0 0] wa (Wrote wa outB))
    (hpos : 0 < outB.length) (hT : TellsTo outB (ihA false 0 0 false 0 true id ssz (outB.length : Nat) false false false false 0 0) 0) (hG : DecGood outB outB.length (zhA false 0 0 false 0 true id ssz (outB.length : Nat) false false false 0 0 false)) :
    Calls Tryd.prog 5 #[.agg (ihA s win dict has size true id ssz hs ck ok last comp out inn)] w fun e w' => e = .returned (.bool true) ∧ Below w.heap.size w w' := by
  have K := Lib.hid (fun (wa : World) => write_any false 0 0 false 0 true id ssz 0 false false false false 0 0 outB wa K0)
  have HT := Lib.hid hT
  have HG := Lib.hid hG
  have HPOS := Lib.hid hpos
  have E0 := Lib.hid e0
  have E1 := Lib.hid e1
  clear K0 hT hG e0 e1 hpos
  go_enter Tryd.func5, Tryd.ntmps5
  go_wp2_with fail
  obtain ⟨C, hC⟩ : ∃ C, w.heap.size = C := ⟨_, rfl⟩
  obtain ⟨_, hx2, _, hbel⟩ := alloc2_facts hC (.cells (ihA s win dict has size true id ssz hs ck ok last comp out inn) 28) (.cells (ihA false 0 0 false 0 true id ssz 0 false false false false 0 0) 28)
  have hsz2 : C + 1 < ((w.alloc (.cells (ihA s win dict has size true id ssz hs ck ok last comp out inn) 28)).alloc (.cells (ihA false 0 0 false 0 true id ssz 0 false false false false 0 0) 28)).heap.size := lt_of_blk hx2
  rw [hC]
  refine (K.out _).mono ?_
  rintro en w1 ⟨A, c, rfl, hsl, hb⟩
  have HR1 := Lib.hid ((hb.block (C + 1) hsz2).trans hx2)
  have hb1 : Below C w w1 := hbel.trans (hb.mono (Nat.le_of_lt (Nat.lt_of_succ_lt hsz2)))
  have hs1 : C + 1 < w1.heap.size := Nat.lt_of_lt_of_le hsz2 hb.size
  have HB1 := Lib.hid hb1
  have HSL1 := Lib.hid hsl
  have HC := Lib.hid hC
  clear hsl hb hx2 hbel hsz2 hb1 hC K
  go_wp2_with fail
  refine (HT.out A outB.length c w1 HSL1.out).mono ?_
  rintro en w2 ⟨rfl, hb2⟩
  have HR2 := Lib.hid ((hb2.block (C + 1) hs1).trans HR1.out)
  have HB2 := Lib.hid (HB1.out.trans (hb2.mono (Nat.le_of_lt (Nat.lt_of_succ_lt hs1))))
  have HSL2 := Lib.hid (HSL1.out.below hb2)
  have HLE2 := Lib.hid hb2.size
  have hs2 : C + 1 < w2.heap.size := by have := hb2.size; omega
  have f8 : ∀ x, (w2.alloc x).frozen? ⟨C + 1, 8, none⟩ = false := fun x => frozen_of_row _ (C + 1) 8 _ 28 ((((Below.refl _ w2).alloc (Nat.le_refl _) x).block (C + 1) hs2).trans HR2.out)
  have k8 : ∀ x, (w2.alloc x).cell? ⟨C + 1, 8, none⟩ = some (.int .i64 0) := fun x => cell_of_row _ (C + 1) 8 _ 28 (0, 0) ((((Below.refl _ w2).alloc (Nat.le_refl _) x).block (C + 1) hs2).trans HR2.out)
  clear hb2 HR1 HB1 HSL1 HT
  go_wp2_with fail
  obtain ⟨B, hB⟩ : ∃ B, w2.heap.size = B := ⟨_, rfl⟩
  obtain ⟨ws, hws⟩ : ∃ x, w2.setCell ⟨C + 1, 8, none⟩ (.int .i64 (outB.length : Nat)) = x := ⟨_, rfl⟩
  have hrs : ws.heap[C + 1]? = some (.cells (ihA false 0 0 false 0 true id ssz (outB.length : Nat) false false false false 0 0) 28 (0, 0)) := by rw [← hws]; exact heap_set_eq HR2.out
  have hbs : Below C w ws := by rw [← hws]; exact HB2.out.setCell (p := ⟨C + 1, 8, none⟩) (Nat.le_succ C) _
  have hzs : ws.heap.size = B := by rw [← hws, ← hB]; simp
  have hsls : Sl ws B A outB.length c outB := by
    rcases Nat.eq_zero_or_pos outB.length with h0 | h0
    · exact absurd h0 (Nat.ne_of_gt HPOS.out)
    · have h2 := HSL2.out
      obtain ⟨g, o, rfl, hgB, hcell⟩ := h2.at_ h0
      have hg : g ≠ C + 1 := by
        rintro rfl
        have h3 := hcell 0 h0
        rw [cell_of_row w2 (C + 1) (o + 0) _ 28 (0, 0) HR2.out] at h3
        exact noBS _ _ _ _ _ _ _ _ _ _ _ _ _ _ _ _ _ h3
      rw [← hws]
      exact (setBS h2 hg).more (by rw [← hB]; exact HLE2.out)
  obtain ⟨wr, hwr⟩ : ∃ x, ws.alloc (.cells (#[.bool false, .int .u64 0, .int .u32 0, .bool false, .int .u64 0, .bool true, .int .i64 id, .int .u32 ssz, .int .i64 (outB.length : Nat), .bool false, .bool false, .bool false, .bool false, .int .i64 0, .int .i64 0]) 28) = x := ⟨_, rfl⟩
  rw [hws, hwr, hB]
  have hbr : Below B ws wr := by rw [← hwr, ← hzs]; exact below_new _ _
  have hdr : wr.heap[B]? = some (.cells (ihA false 0 0 false 0 true id ssz (outB.length : Nat) false false false false 0 0) 28 (0, 0)) := by rw [← hwr, ← hzs]; exact heap_alloc_new _ _
  have hCB : C + 1 < B := by rw [← hB]; exact hs2
  have hrr := (hbr.block (C + 1) hCB).trans hrs
  have hzr : B < wr.heap.size := lt_of_blk hdr
  have hbw : Below C w wr := hbs.trans (hbr.mono (by omega))
  have h1C : 1 < C := by have := World.block_lt_of_cell? _ _ E1.out; rw [HC.out] at this; exact this
  refine (rd_good (HdIn.mk ((hsls.below hbr).more (by omega)) ((hbw.cell (p := ⟨0, 0, none⟩) (by show 0 < C; omega)).trans E0.out) ((hbw.cell (p := ⟨1, 0, none⟩) h1C).trans E1.out)) HG.out).mono ?_
  rintro en w4 ⟨rfl, hb4⟩
  have HX := Lib.hid ((hb4.block (C + 1) (by omega)).trans hrr)
  have HY := Lib.hid ((hb4.block B hzr).trans hdr)
  have HB4 := Lib.hid (hbw.trans (hb4.mono (by omega)))
  have hs4 : B < w4.heap.size := by have := hb4.size; omega
  have hs5 : C + 1 < w4.heap.size := by omega
  clear hb4 hbw hbr hrr hdr hzr hsls hbs hrs hzs f8 k8 hws hwr HR2 HB2 HSL2 hs2 hB E0 E1 HG
  have heq := eqlFS false 0 0 false 0 true id ssz (outB.length : Nat) false false false false 0 0
  have x0 := cell_of_row w4 (C + 1) 0 _ 28 (0, 0) HX.out
  have y0 := cell_of_row w4 B 0 _ 28 (0, 0) HY.out
  have x1 := cell_of_row w4 (C + 1) 1 _ 28 (0, 0) HX.out
  have y1 := cell_of_row w4 B 1 _ 28 (0, 0) HY.out
  have x2 := cell_of_row w4 (C + 1) 2 _ 28 (0, 0) HX.out
  have y2 := cell_of_row w4 B 2 _ 28 (0, 0) HY.out
  have x3 := cell_of_row w4 (C + 1) 3 _ 28 (0, 0) HX.out
  have y3 := cell_of_row w4 B 3 _ 28 (0, 0) HY.out
  have x4 := cell_of_row w4 (C + 1) 4 _ 28 (0, 0) HX.out
  have y4 := cell_of_row w4 B 4 _ 28 (0, 0) HY.out
  have x5 := cell_of_row w4 (C + 1) 5 _ 28 (0, 0) HX.out
  have y5 := cell_of_row w4 B 5 _ 28 (0, 0) HY.out
  have x6 := cell_of_row w4 (C + 1) 6 _ 28 (0, 0) HX.out
  have y6 := cell_of_row w4 B 6 _ 28 (0, 0) HY.out
  have x7 := cell_of_row w4 (C + 1) 7 _ 28 (0, 0) HX.out
  have y7 := cell_of_row w4 B 7 _ 28 (0, 0) HY.out
  have x8 := cell_of_row w4 (C + 1) 8 _ 28 (0, 0) HX.out
  have y8 := cell_of_row w4 B 8 _ 28 (0, 0) HY.out
  have x9 := cell_of_row w4 (C + 1) 9 _ 28 (0, 0) HX.out
  have y9 := cell_of_row w4 B 9 _ 28 (0, 0) HY.out
  have x10 := cell_of_row w4 (C + 1) 10 _ 28 (0, 0) HX.out
  have y10 := cell_of_row w4 B 10 _ 28 (0, 0) HY.out
  have x11 := cell_of_row w4 (C + 1) 11 _ 28 (0, 0) HX.out
  have y11 := cell_of_row w4 B 11 _ 28 (0, 0) HY.out
  have x12 := cell_of_row w4 (C + 1) 12 _ 28 (0, 0) HX.out
  have y12 := cell_of_row w4 B 12 _ 28 (0, 0) HY.out
  have x13 := cell_of_row w4 (C + 1) 13 _ 28 (0, 0) HX.out
  have y13 := cell_of_row w4 B 13 _ 28 (0, 0) HY.out
  have x14 := cell_of_row w4 (C + 1) 14 _ 28 (0, 0) HX.out
  have y14 := cell_of_row w4 B 14 _ 28 (0, 0) HY.out
  go_wp2_with fail
  go_ret
  rw [HC.out]
  exact ⟨rfl, HB4.out.alloc (by omega) _⟩
end Go.Proofs.YtiobfiepapflaaaDoor
