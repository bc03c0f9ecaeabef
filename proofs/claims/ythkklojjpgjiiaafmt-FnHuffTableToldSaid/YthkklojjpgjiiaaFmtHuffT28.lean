/-
  fse.allocDtable: the tables are made. Conditions: those of the theorem.
  fse.buildDtable: the loops taken out of the translation, what is told of a frame and of the memory. Definitions and plain lemmas.
-/
import Derived.Test.YthkklojjpgjiiaaFmtHuffT27
namespace Go.Proofs.YthkklojjpgjiiaaFmt
open Go.RowKit Go.Extern.Stop Go.Stop Go.Extern

theorem info_dec : (Tryf.prog.info? 162).map (fun i => (i.zero, i.size, i.bytes)) = some (some (.agg #[.int .u16 0, .int .u8 0, .int .u8 0]), 3, 4) := by kernel_rfl
theorem info_u8 : (Tryf.prog.info? 5).map (fun i => (i.zero, i.size, i.bytes)) = some (some (.int .u8 0), 1, 1) := by kernel_rfl
theorem info_u16 : (Tryf.prog.info? 37).map (fun i => (i.zero, i.size, i.bytes)) = some (some (.int .u16 0), 1, 2) := by kernel_rfl
/-- the cells of the decoding table -/
def dcV (a b c : Nat → Nat) : Nat → Value := fun k => if k % 3 = 0 then .int .u16 (c (k / 3) : Nat) else if k % 3 = 1 then .int .u8 (a (k / 3) : Nat) else .int .u8 (b (k / 3) : Nat)
theorem make_one (t e : TypeId) (k0 : IntKind) (bytes : Nat) (ht : Tryf.prog.underlying t = some (.slice e)) (hi : (Tryf.prog.info? e).map (fun i => (i.zero, i.size, i.bytes)) = some (some (.int k0 0), 1, bytes)) (n : Nat) (ni : Int) (hn : ni = n) (hb : bytes * n ≤ 1000000) (hb1 : 1 ≤ bytes) :
    ∃ arr : Array Value, (∀ w, (Instr.makeSlice t (.int .i64 ni) (.int .i64 ni)).run Tryf.prog w = .ok (.slice (some ⟨w.heap.size, 0, none⟩) n n) (w.alloc (.cells arr e))) ∧ arr.size = n ∧ ∀ k, k < n → arr[k]? = some (.int k0 0) := by
  refine ⟨_, make_run t e _ 1 bytes ht hi n ni ni hn hn hb hb1, by simp [size_madeCells], fun k hk => ?_⟩
  rw [madeCells_get _ _ k (by omega)]
  simp [Value.cells, Nat.mod_one]
theorem make_dec (S : Nat) (ni : Int) (hn : ni = S) (hS : S ≤ 64) :
    ∃ arr : Array Value, (∀ w, (Instr.makeSlice 96 (.int .i64 ni) (.int .i64 ni)).run Tryf.prog w = .ok (.slice (some ⟨w.heap.size, 0, none⟩) S S) (w.alloc (.cells arr 162))) ∧ arr.size = 3 * S ∧ ∀ k, k < 3 * S → arr[k]? = some (dcV zf zf zf k) := by
  refine ⟨_, make_run 96 162 _ 3 4 Tryf.underlying96 info_dec S ni ni hn hn (by omega) (by omega), by simp [size_madeCells, Nat.mul_comm], fun k hk => ?_⟩
  rw [madeCells_get _ _ k (by omega)]
  unfold dcV
  have : k % 3 < 3 := Nat.mod_lt _ (by omega)
  rcases (show k % 3 = 0 ∨ k % 3 = 1 ∨ k % 3 = 2 by omega) with e | e | e <;> simp [e, zf, Value.cells]
def AllocPost (w : World) (D S : Nat) (f : Nat → Value) (e : Ending) (w' : World) : Prop :=
  e = .returned (.tuple #[]) ∧ RowF w' D 98 534 (updV (updV (updV f 524 (.slice (some ⟨w.heap.size, 0, none⟩) S S)) 521 (.slice (some ⟨w.heap.size + 1, 0, none⟩) 256 256)) 522 (.slice (some ⟨w.heap.size + 2, 0, none⟩) 256 256)) ∧
    RowF w' w.heap.size 162 (3 * S) (dcV zf zf zf) ∧ RowF w' (w.heap.size + 1) 5 256 (fun _ => .int .u8 0) ∧ RowF w' (w.heap.size + 2) 37 256 (fun _ => .int .u16 0) ∧ Only (· = D) w w'
set_option maxRecDepth 100000 in
set_option maxHeartbeats 3200000 in
theorem allocDtable_5 {w : World} {D : Nat} {f : Nat → Value} (hr : RowF w D 98 534 f) (h529 : f 529 = .int .u8 (5 : Nat)) (h524 : f 524 = .slice none 0 0) (h521 : f 521 = .slice none 0 0) (h522 : f 522 = .slice none 0 0) :
    Calls Tryf.prog 60 #[.pointer (some ⟨D, 0, none⟩)] w (AllocPost w D 32 f) := by
  obtain ⟨a1, hmk1, z1, y1⟩ := make_dec 32 32 rfl (by omega)
  obtain ⟨a2, hmk2, z2, y2⟩ := make_one 28 5 .u8 1 Tryf.underlying28 info_u8 256 256 rfl (by omega) (by omega)
  obtain ⟨a3, hmk3, z3, y3⟩ := make_one 22 37 .u16 2 Tryf.underlying22 info_u16 256 256 rfl (by omega) (by omega)
  have Z1 := Lib.hid z1
  have Z2 := Lib.hid z2
  have Z3 := Lib.hid z3
  have Y1 := Lib.hid y1
  have Y2 := Lib.hid y2
  have Y3 := Lib.hid y3
  clear z1 z2 z3 y1 y2 y3
  have k529 : w.cell? ⟨D, 529, none⟩ = some (.int .u8 (5 : Nat)) := hr.cellv _ (by omega) _ h529
  have k524 : w.cell? ⟨D, 524, none⟩ = some (.slice none 0 0) := hr.cellv _ (by omega) _ h524
  have k521 : w.cell? ⟨D, 521, none⟩ = some (.slice none 0 0) := hr.cellv _ (by omega) _ h521
  have k522 : w.cell? ⟨D, 522, none⟩ = some (.slice none 0 0) := hr.cellv _ (by omega) _ h522
  have z524 := hr.frozen 524
  have z521 := hr.frozen 521
  have z522 := hr.frozen 522
  have hlt := hr.lt
  have HR := Lib.hid hr
  have H521 := Lib.hid h521
  have H522 := Lib.hid h522
  clear hr h529 h524 h521 h522
  go_enter Tryf.func60, Tryf.ntmps60
  go_upto_region 3 with fail
  have hR1 := (HR.out.set_ 524 (.slice (some ⟨w.heap.size, 0, none⟩) 32 32)).alloc (.cells a1 162)
  have hT1 := RowF.new (w.setCell ⟨D, 524, none⟩ (.slice (some ⟨w.heap.size, 0, none⟩) 32 32)) a1 162 _ (fun k hk => Y1.out k (by rw [← Z1.out]; exact hk))
  rw [Z1.out, setCell_size] at hT1
  have hO1 : Only (· = D) w ((w.setCell ⟨D, 524, none⟩ (.slice (some ⟨w.heap.size, 0, none⟩) 32 32)).alloc (.cells a1 162)) := ((Only.refl (· = D) w).set_ (p := ⟨D, 524, none⟩) rfl (.slice (some ⟨w.heap.size, 0, none⟩) 32 32)).alloc _
  have hs1 : ((w.setCell ⟨D, 524, none⟩ (.slice (some ⟨w.heap.size, 0, none⟩) 32 32)).alloc (.cells a1 162)).heap.size = w.heap.size + 1 := by simp
  generalize hw1 : World.alloc (World.setCell w _ _) _ = w1 at hR1 hT1 hO1 hs1 ⊢
  obtain ⟨h, hh⟩ : ∃ h, w.heap.size = h := ⟨_, rfl⟩
  rw [hh] at hR1 hT1 hs1 hlt ⊢
  have k524 : w1.cell? ⟨D, 524, none⟩ = some (.slice (some ⟨h, 0, none⟩) 32 32) := hR1.cellv 524 (by omega) _ (updV_same _ _ _)
  have k521 : w1.cell? ⟨D, 521, none⟩ = some (.slice none 0 0) := hR1.cellv 521 (by omega) _ (by rw [updV_ne _ _ _ _ (by omega)]; exact H521.out)
  have z524 := hR1.frozen 524
  have z521 := hR1.frozen 521
  have HR1 := Lib.hid hR1
  have HT1 := Lib.hid hT1
  have HO1 := Lib.hid hO1
  have HHH := Lib.hid hh
  clear hR1 hT1 hO1 hw1 hh
  go_upto_region 6 with fail
  have hR2 := ((HR1.out.set_ 524 (.slice (some ⟨h, 0, none⟩) 32 32)).set_ 521 (.slice (some ⟨h + 1, 0, none⟩) 256 256)).alloc (.cells a2 5)
  have hT2 := ((HT1.out.other (p := ⟨D, 524, none⟩) (.slice (some ⟨h, 0, none⟩) 32 32) (show D ≠ h by omega)).other (p := ⟨D, 521, none⟩) (.slice (some ⟨h + 1, 0, none⟩) 256 256) (show D ≠ h by omega)).alloc (.cells a2 5)
  have hU2 := RowF.new ((w1.setCell ⟨D, 524, none⟩ (.slice (some ⟨h, 0, none⟩) 32 32)).setCell ⟨D, 521, none⟩ (.slice (some ⟨h + 1, 0, none⟩) 256 256)) a2 5 (fun _ => .int .u8 0) (fun k hk => Y2.out k (by rw [← Z2.out]; exact hk))
  rw [Z2.out, setCell_size, setCell_size, hs1] at hU2
  have hO2 := ((HO1.out.set_ (p := ⟨D, 524, none⟩) rfl (.slice (some ⟨h, 0, none⟩) 32 32)).set_ (p := ⟨D, 521, none⟩) rfl (.slice (some ⟨h + 1, 0, none⟩) 256 256)).alloc (.cells a2 5)
  have hs2 : (((w1.setCell ⟨D, 524, none⟩ (.slice (some ⟨h, 0, none⟩) 32 32)).setCell ⟨D, 521, none⟩ (.slice (some ⟨h + 1, 0, none⟩) 256 256)).alloc (.cells a2 5)).heap.size = h + 2 := by simp [hs1]
  generalize hw2 : World.alloc (World.setCell (World.setCell w1 _ _) _ _) _ = w2 at hR2 hT2 hU2 hO2 hs2 ⊢
  have k521 : w2.cell? ⟨D, 521, none⟩ = some (.slice (some ⟨h + 1, 0, none⟩) 256 256) := hR2.cellv 521 (by omega) _ (updV_same _ _ _)
  have k522 : w2.cell? ⟨D, 522, none⟩ = some (.slice none 0 0) := hR2.cellv 522 (by omega) _ (by rw [updV_ne _ _ _ _ (by omega), updV_ne _ _ _ _ (by omega), updV_ne _ _ _ _ (by omega)]; exact H522.out)
  have z521 := hR2.frozen 521
  have z522 := hR2.frozen 522
  have HR2 := Lib.hid hR2
  have HT2 := Lib.hid hT2
  have HU2 := Lib.hid hU2
  have HO2 := Lib.hid hO2
  clear hR2 hT2 hU2 hO2 hw2 hs1
  have hlt2 : D < h + 2 := by omega
  have hne2 : D ≠ h + 2 := by omega
  go_upto_region 9 with fail
  have hR3 := ((HR2.out.set_ 521 (.slice (some ⟨h + 1, 0, none⟩) 256 256)).set_ 522 (.slice (some ⟨h + 2, 0, none⟩) 256 256)).alloc (.cells a3 37)
  have hT3 := ((HT2.out.other (p := ⟨D, 521, none⟩) (.slice (some ⟨h + 1, 0, none⟩) 256 256) (show D ≠ h by omega)).other (p := ⟨D, 522, none⟩) (.slice (some ⟨h + 2, 0, none⟩) 256 256) (show D ≠ h by omega)).alloc (.cells a3 37)
  have hU3 := ((HU2.out.other (p := ⟨D, 521, none⟩) (.slice (some ⟨h + 1, 0, none⟩) 256 256) (show D ≠ h + 1 by omega)).other (p := ⟨D, 522, none⟩) (.slice (some ⟨h + 2, 0, none⟩) 256 256) (show D ≠ h + 1 by omega)).alloc (.cells a3 37)
  have hV3 := RowF.new ((w2.setCell ⟨D, 521, none⟩ (.slice (some ⟨h + 1, 0, none⟩) 256 256)).setCell ⟨D, 522, none⟩ (.slice (some ⟨h + 2, 0, none⟩) 256 256)) a3 37 (fun _ => .int .u16 0) (fun k hk => Y3.out k (by rw [← Z3.out]; exact hk))
  rw [Z3.out, setCell_size, setCell_size, hs2] at hV3
  have hO3 := ((HO2.out.set_ (p := ⟨D, 521, none⟩) rfl (.slice (some ⟨h + 1, 0, none⟩) 256 256)).set_ (p := ⟨D, 522, none⟩) rfl (.slice (some ⟨h + 2, 0, none⟩) 256 256)).alloc (.cells a3 37)
  generalize hw3 : World.alloc (World.setCell (World.setCell w2 _ _) _ _) _ = w3 at hR3 hT3 hU3 hV3 hO3 ⊢
  have k522 : w3.cell? ⟨D, 522, none⟩ = some (.slice (some ⟨h + 2, 0, none⟩) 256 256) := hR3.cellv 522 (by omega) _ (updV_same _ _ _)
  have z522 := hR3.frozen 522
  have HR3 := Lib.hid hR3
  have HT3 := Lib.hid hT3
  have HU3 := Lib.hid hU3
  have HV3 := Lib.hid hV3
  have HO3 := Lib.hid hO3
  clear hR3 hT3 hU3 hV3 hO3 hw3 hs2
  go_wp2_with fail
  refine bodyPost_ret (results_none rfl _ _ _) rfl ?_
  refine ⟨rfl, ?_, ?_, ?_, ?_, HO3.out.set_ rfl _⟩
  · rw [HHH.out]
    refine (HR3.out.set_ 522 _).congr fun k _ => ?_
    unfold updV
    by_cases e2 : k = 522
    · rw [if_pos e2, if_pos e2]
    · rw [if_neg e2, if_neg e2, if_neg e2]
      by_cases e1 : k = 521
      · rw [if_pos e1, if_pos e1]
      · rw [if_neg e1, if_neg e1, if_neg e1]
        by_cases e4 : k = 524
        · rw [if_pos e4, if_pos e4]
        · simp only [if_neg e4]
  · rw [HHH.out]; exact HT3.out.other _ (show D ≠ h by omega)
  · rw [HHH.out]; exact HU3.out.other _ (show D ≠ h + 1 by omega)
  · rw [HHH.out]; exact HV3.out.other _ (show D ≠ h + 2 by omega)
set_option maxRecDepth 100000 in
set_option maxHeartbeats 3200000 in
theorem allocDtable_6 {w : World} {D : Nat} {f : Nat → Value} (hr : RowF w D 98 534 f) (h529 : f 529 = .int .u8 (6 : Nat)) (h524 : f 524 = .slice none 0 0) (h521 : f 521 = .slice none 0 0) (h522 : f 522 = .slice none 0 0) :
    Calls Tryf.prog 60 #[.pointer (some ⟨D, 0, none⟩)] w (AllocPost w D 64 f) := by
  obtain ⟨a1, hmk1, z1, y1⟩ := make_dec 64 64 rfl (by omega)
  obtain ⟨a2, hmk2, z2, y2⟩ := make_one 28 5 .u8 1 Tryf.underlying28 info_u8 256 256 rfl (by omega) (by omega)
  obtain ⟨a3, hmk3, z3, y3⟩ := make_one 22 37 .u16 2 Tryf.underlying22 info_u16 256 256 rfl (by omega) (by omega)
  have Z1 := Lib.hid z1
  have Z2 := Lib.hid z2
  have Z3 := Lib.hid z3
  have Y1 := Lib.hid y1
  have Y2 := Lib.hid y2
  have Y3 := Lib.hid y3
  clear z1 z2 z3 y1 y2 y3
  have k529 : w.cell? ⟨D, 529, none⟩ = some (.int .u8 (6 : Nat)) := hr.cellv _ (by omega) _ h529
  have k524 : w.cell? ⟨D, 524, none⟩ = some (.slice none 0 0) := hr.cellv _ (by omega) _ h524
  have k521 : w.cell? ⟨D, 521, none⟩ = some (.slice none 0 0) := hr.cellv _ (by omega) _ h521
  have k522 : w.cell? ⟨D, 522, none⟩ = some (.slice none 0 0) := hr.cellv _ (by omega) _ h522
  have z524 := hr.frozen 524
  have z521 := hr.frozen 521
  have z522 := hr.frozen 522
  have hlt := hr.lt
  have HR := Lib.hid hr
  have H521 := Lib.hid h521
  have H522 := Lib.hid h522
  clear hr h529 h524 h521 h522
  go_enter Tryf.func60, Tryf.ntmps60
  go_upto_region 3 with fail
  have hR1 := (HR.out.set_ 524 (.slice (some ⟨w.heap.size, 0, none⟩) 64 64)).alloc (.cells a1 162)
  have hT1 := RowF.new (w.setCell ⟨D, 524, none⟩ (.slice (some ⟨w.heap.size, 0, none⟩) 64 64)) a1 162 _ (fun k hk => Y1.out k (by rw [← Z1.out]; exact hk))
  rw [Z1.out, setCell_size] at hT1
  have hO1 : Only (· = D) w ((w.setCell ⟨D, 524, none⟩ (.slice (some ⟨w.heap.size, 0, none⟩) 64 64)).alloc (.cells a1 162)) := ((Only.refl (· = D) w).set_ (p := ⟨D, 524, none⟩) rfl (.slice (some ⟨w.heap.size, 0, none⟩) 64 64)).alloc _
  have hs1 : ((w.setCell ⟨D, 524, none⟩ (.slice (some ⟨w.heap.size, 0, none⟩) 64 64)).alloc (.cells a1 162)).heap.size = w.heap.size + 1 := by simp
  generalize hw1 : World.alloc (World.setCell w _ _) _ = w1 at hR1 hT1 hO1 hs1 ⊢
  obtain ⟨h, hh⟩ : ∃ h, w.heap.size = h := ⟨_, rfl⟩
  rw [hh] at hR1 hT1 hs1 hlt ⊢
  have k524 : w1.cell? ⟨D, 524, none⟩ = some (.slice (some ⟨h, 0, none⟩) 64 64) := hR1.cellv 524 (by omega) _ (updV_same _ _ _)
  have k521 : w1.cell? ⟨D, 521, none⟩ = some (.slice none 0 0) := hR1.cellv 521 (by omega) _ (by rw [updV_ne _ _ _ _ (by omega)]; exact H521.out)
  have z524 := hR1.frozen 524
  have z521 := hR1.frozen 521
  have HR1 := Lib.hid hR1
  have HT1 := Lib.hid hT1
  have HO1 := Lib.hid hO1
  have HHH := Lib.hid hh
  clear hR1 hT1 hO1 hw1 hh
  go_upto_region 6 with fail
  have hR2 := ((HR1.out.set_ 524 (.slice (some ⟨h, 0, none⟩) 64 64)).set_ 521 (.slice (some ⟨h + 1, 0, none⟩) 256 256)).alloc (.cells a2 5)
  have hT2 := ((HT1.out.other (p := ⟨D, 524, none⟩) (.slice (some ⟨h, 0, none⟩) 64 64) (show D ≠ h by omega)).other (p := ⟨D, 521, none⟩) (.slice (some ⟨h + 1, 0, none⟩) 256 256) (show D ≠ h by omega)).alloc (.cells a2 5)
  have hU2 := RowF.new ((w1.setCell ⟨D, 524, none⟩ (.slice (some ⟨h, 0, none⟩) 64 64)).setCell ⟨D, 521, none⟩ (.slice (some ⟨h + 1, 0, none⟩) 256 256)) a2 5 (fun _ => .int .u8 0) (fun k hk => Y2.out k (by rw [← Z2.out]; exact hk))
  rw [Z2.out, setCell_size, setCell_size, hs1] at hU2
  have hO2 := ((HO1.out.set_ (p := ⟨D, 524, none⟩) rfl (.slice (some ⟨h, 0, none⟩) 64 64)).set_ (p := ⟨D, 521, none⟩) rfl (.slice (some ⟨h + 1, 0, none⟩) 256 256)).alloc (.cells a2 5)
  have hs2 : (((w1.setCell ⟨D, 524, none⟩ (.slice (some ⟨h, 0, none⟩) 64 64)).setCell ⟨D, 521, none⟩ (.slice (some ⟨h + 1, 0, none⟩) 256 256)).alloc (.cells a2 5)).heap.size = h + 2 := by simp [hs1]
  generalize hw2 : World.alloc (World.setCell (World.setCell w1 _ _) _ _) _ = w2 at hR2 hT2 hU2 hO2 hs2 ⊢
  have k521 : w2.cell? ⟨D, 521, none⟩ = some (.slice (some ⟨h + 1, 0, none⟩) 256 256) := hR2.cellv 521 (by omega) _ (updV_same _ _ _)
  have k522 : w2.cell? ⟨D, 522, none⟩ = some (.slice none 0 0) := hR2.cellv 522 (by omega) _ (by rw [updV_ne _ _ _ _ (by omega), updV_ne _ _ _ _ (by omega), updV_ne _ _ _ _ (by omega)]; exact H522.out)
  have z521 := hR2.frozen 521
  have z522 := hR2.frozen 522
  have HR2 := Lib.hid hR2
  have HT2 := Lib.hid hT2
  have HU2 := Lib.hid hU2
  have HO2 := Lib.hid hO2
  clear hR2 hT2 hU2 hO2 hw2 hs1
  have hlt2 : D < h + 2 := by omega
  have hne2 : D ≠ h + 2 := by omega
  go_upto_region 9 with fail
  have hR3 := ((HR2.out.set_ 521 (.slice (some ⟨h + 1, 0, none⟩) 256 256)).set_ 522 (.slice (some ⟨h + 2, 0, none⟩) 256 256)).alloc (.cells a3 37)
  have hT3 := ((HT2.out.other (p := ⟨D, 521, none⟩) (.slice (some ⟨h + 1, 0, none⟩) 256 256) (show D ≠ h by omega)).other (p := ⟨D, 522, none⟩) (.slice (some ⟨h + 2, 0, none⟩) 256 256) (show D ≠ h by omega)).alloc (.cells a3 37)
  have hU3 := ((HU2.out.other (p := ⟨D, 521, none⟩) (.slice (some ⟨h + 1, 0, none⟩) 256 256) (show D ≠ h + 1 by omega)).other (p := ⟨D, 522, none⟩) (.slice (some ⟨h + 2, 0, none⟩) 256 256) (show D ≠ h + 1 by omega)).alloc (.cells a3 37)
  have hV3 := RowF.new ((w2.setCell ⟨D, 521, none⟩ (.slice (some ⟨h + 1, 0, none⟩) 256 256)).setCell ⟨D, 522, none⟩ (.slice (some ⟨h + 2, 0, none⟩) 256 256)) a3 37 (fun _ => .int .u16 0) (fun k hk => Y3.out k (by rw [← Z3.out]; exact hk))
  rw [Z3.out, setCell_size, setCell_size, hs2] at hV3
  have hO3 := ((HO2.out.set_ (p := ⟨D, 521, none⟩) rfl (.slice (some ⟨h + 1, 0, none⟩) 256 256)).set_ (p := ⟨D, 522, none⟩) rfl (.slice (some ⟨h + 2, 0, none⟩) 256 256)).alloc (.cells a3 37)
  generalize hw3 : World.alloc (World.setCell (World.setCell w2 _ _) _ _) _ = w3 at hR3 hT3 hU3 hV3 hO3 ⊢
  have k522 : w3.cell? ⟨D, 522, none⟩ = some (.slice (some ⟨h + 2, 0, none⟩) 256 256) := hR3.cellv 522 (by omega) _ (updV_same _ _ _)
  have z522 := hR3.frozen 522
  have HR3 := Lib.hid hR3
  have HT3 := Lib.hid hT3
  have HU3 := Lib.hid hU3
  have HV3 := Lib.hid hV3
  have HO3 := Lib.hid hO3
  clear hR3 hT3 hU3 hV3 hO3 hw3 hs2
  go_wp2_with fail
  refine bodyPost_ret (results_none rfl _ _ _) rfl ?_
  refine ⟨rfl, ?_, ?_, ?_, ?_, HO3.out.set_ rfl _⟩
  · rw [HHH.out]
    refine (HR3.out.set_ 522 _).congr fun k _ => ?_
    unfold updV
    by_cases e2 : k = 522
    · rw [if_pos e2, if_pos e2]
    · rw [if_neg e2, if_neg e2, if_neg e2]
      by_cases e1 : k = 521
      · rw [if_pos e1, if_pos e1]
      · rw [if_neg e1, if_neg e1, if_neg e1]
        by_cases e4 : k = 524
        · rw [if_pos e4, if_pos e4]
        · simp only [if_neg e4]
  · rw [HHH.out]; exact HT3.out.other _ (show D ≠ h by omega)
  · rw [HHH.out]; exact HU3.out.other _ (show D ≠ h + 1 by omega)
  · rw [HHH.out]; exact HV3.out.other _ (show D ≠ h + 2 by omega)
theorem allocDtable_any {w : World} {D lg S : Nat} {f : Nat → Value} (hlg : lg = 5 ∧ S = 32 ∨ lg = 6 ∧ S = 64) (hr : RowF w D 98 534 f) (h529 : f 529 = .int .u8 (lg : Nat)) (h524 : f 524 = .slice none 0 0) (h521 : f 521 = .slice none 0 0) (h522 : f 522 = .slice none 0 0) :
    Calls Tryf.prog 60 #[.pointer (some ⟨D, 0, none⟩)] w (AllocPost w D S f) := by
  rcases hlg with ⟨rfl, rfl⟩ | ⟨rfl, rfl⟩
  · exact allocDtable_5 hr h529 h524 h521 h522
  · exact allocDtable_6 hr h529 h524 h521 h522
end Go.Proofs.YthkklojjpgjiiaaFmt
namespace Go.Proofs.YthkklojjpgjiiaaFmt
open Go.RowKit Go.Extern.Stop Go.Stop Go.Extern

/-- all loops that stand in no other, in order -/
def loopsOf : Code → List Code
  | .loop c => [.loop c]
  | .seq a b => loopsOf a ++ loopsOf b
  | .block _ c => loopsOf c
  | .scope c => loopsOf c
  | .cond _ a b => loopsOf a ++ loopsOf b
  | _ => []
noncomputable def dtLoops : List Code := loopsOf ((Tryf.f45.body).getD .skip)
noncomputable def dtL1 : Code := dtLoops.getD 0 .skip
noncomputable def dtL2 : Code := dtLoops.getD 1 .skip
noncomputable def dtL3 : Code := dtLoops.getD 2 .skip
set_option maxRecDepth 100000 in
theorem arr218 (a : Array Value) (h : a.size = 218) : a = #[a.getD 0 undef, a.getD 1 undef, a.getD 2 undef, a.getD 3 undef, a.getD 4 undef, a.getD 5 undef, a.getD 6 undef, a.getD 7 undef, a.getD 8 undef, a.getD 9 undef, a.getD 10 undef, a.getD 11 undef, a.getD 12 undef, a.getD 13 undef, a.getD 14 undef, a.getD 15 undef, a.getD 16 undef, a.getD 17 undef, a.getD 18 undef, a.getD 19 undef, a.getD 20 undef, a.getD 21 undef, a.getD 22 undef, a.getD 23 undef, a.getD 24 undef, a.getD 25 undef, a.getD 26 undef, a.getD 27 undef, a.getD 28 undef, a.getD 29 undef, a.getD 30 undef, a.getD 31 undef, a.getD 32 undef, a.getD 33 undef, a.getD 34 undef, a.getD 35 undef, a.getD 36 undef, a.getD 37 undef, a.getD 38 undef, a.getD 39 undef, a.getD 40 undef, a.getD 41 undef, a.getD 42 undef, a.getD 43 undef, a.getD 44 undef, a.getD 45 undef, a.getD 46 undef, a.getD 47 undef, a.getD 48 undef, a.getD 49 undef, a.getD 50 undef, a.getD 51 undef, a.getD 52 undef, a.getD 53 undef, a.getD 54 undef, a.getD 55 undef, a.getD 56 undef, a.getD 57 undef, a.getD 58 undef, a.getD 59 undef, a.getD 60 undef, a.getD 61 undef, a.getD 62 undef, a.getD 63 undef, a.getD 64 undef, a.getD 65 undef, a.getD 66 undef, a.getD 67 undef, a.getD 68 undef, a.getD 69 undef, a.getD 70 undef, a.getD 71 undef, a.getD 72 undef, a.getD 73 undef, a.getD 74 undef, a.getD 75 undef, a.getD 76 undef, a.getD 77 undef, a.getD 78 undef, a.getD 79 undef, a.getD 80 undef, a.getD 81 undef, a.getD 82 undef, a.getD 83 undef, a.getD 84 undef, a.getD 85 undef, a.getD 86 undef, a.getD 87 undef, a.getD 88 undef, a.getD 89 undef, a.getD 90 undef, a.getD 91 undef, a.getD 92 undef, a.getD 93 undef, a.getD 94 undef, a.getD 95 undef, a.getD 96 undef, a.getD 97 undef, a.getD 98 undef, a.getD 99 undef, a.getD 100 undef, a.getD 101 undef, a.getD 102 undef, a.getD 103 undef, a.getD 104 undef, a.getD 105 undef, a.getD 106 undef, a.getD 107 undef, a.getD 108 undef, a.getD 109 undef, a.getD 110 undef, a.getD 111 undef, a.getD 112 undef, a.getD 113 undef, a.getD 114 undef, a.getD 115 undef, a.getD 116 undef, a.getD 117 undef, a.getD 118 undef, a.getD 119 undef, a.getD 120 undef, a.getD 121 undef, a.getD 122 undef, a.getD 123 undef, a.getD 124 undef, a.getD 125 undef, a.getD 126 undef, a.getD 127 undef, a.getD 128 undef, a.getD 129 undef, a.getD 130 undef, a.getD 131 undef, a.getD 132 undef, a.getD 133 undef, a.getD 134 undef, a.getD 135 undef, a.getD 136 undef, a.getD 137 undef, a.getD 138 undef, a.getD 139 undef, a.getD 140 undef, a.getD 141 undef, a.getD 142 undef, a.getD 143 undef, a.getD 144 undef, a.getD 145 undef, a.getD 146 undef, a.getD 147 undef, a.getD 148 undef, a.getD 149 undef, a.getD 150 undef, a.getD 151 undef, a.getD 152 undef, a.getD 153 undef, a.getD 154 undef, a.getD 155 undef, a.getD 156 undef, a.getD 157 undef, a.getD 158 undef, a.getD 159 undef, a.getD 160 undef, a.getD 161 undef, a.getD 162 undef, a.getD 163 undef, a.getD 164 undef, a.getD 165 undef, a.getD 166 undef, a.getD 167 undef, a.getD 168 undef, a.getD 169 undef, a.getD 170 undef, a.getD 171 undef, a.getD 172 undef, a.getD 173 undef, a.getD 174 undef, a.getD 175 undef, a.getD 176 undef, a.getD 177 undef, a.getD 178 undef, a.getD 179 undef, a.getD 180 undef, a.getD 181 undef, a.getD 182 undef, a.getD 183 undef, a.getD 184 undef, a.getD 185 undef, a.getD 186 undef, a.getD 187 undef, a.getD 188 undef, a.getD 189 undef, a.getD 190 undef, a.getD 191 undef, a.getD 192 undef, a.getD 193 undef, a.getD 194 undef, a.getD 195 undef, a.getD 196 undef, a.getD 197 undef, a.getD 198 undef, a.getD 199 undef, a.getD 200 undef, a.getD 201 undef, a.getD 202 undef, a.getD 203 undef, a.getD 204 undef, a.getD 205 undef, a.getD 206 undef, a.getD 207 undef, a.getD 208 undef, a.getD 209 undef, a.getD 210 undef, a.getD 211 undef, a.getD 212 undef, a.getD 213 undef, a.getD 214 undef, a.getD 215 undef, a.getD 216 undef, a.getD 217 undef] := by
  have := arr_range a 218 h
  exact this
def DtF (D h S : Nat) (v4 v11 : Value) (F : Act) : Prop := F.defers = [] ∧ F.tmps.size = 218 ∧ F.tmps.getD 0 undef = .pointer (some ⟨D, 0, none⟩) ∧ F.tmps.getD 3 undef = .int .u32 (S : Nat) ∧ F.tmps.getD 4 undef = v4 ∧ F.tmps.getD 5 undef = .slice (some ⟨h + 2, 0, none⟩) 256 256 ∧ F.tmps.getD 11 undef = v11
set_option maxRecDepth 100000 in
theorem dt_frame {F : Act} {D h S : Nat} {v4 v11 : Value} (hfr : DtF D h S v4 v11 F) : F = ⟨#[.pointer (some ⟨D, 0, none⟩), F.tmps.getD 1 undef, F.tmps.getD 2 undef, .int .u32 (S : Nat), v4, .slice (some ⟨h + 2, 0, none⟩) 256 256, F.tmps.getD 6 undef, F.tmps.getD 7 undef, F.tmps.getD 8 undef, F.tmps.getD 9 undef, F.tmps.getD 10 undef, v11, F.tmps.getD 12 undef, F.tmps.getD 13 undef, F.tmps.getD 14 undef, F.tmps.getD 15 undef, F.tmps.getD 16 undef, F.tmps.getD 17 undef, F.tmps.getD 18 undef, F.tmps.getD 19 undef, F.tmps.getD 20 undef, F.tmps.getD 21 undef, F.tmps.getD 22 undef, F.tmps.getD 23 undef, F.tmps.getD 24 undef, F.tmps.getD 25 undef, F.tmps.getD 26 undef, F.tmps.getD 27 undef, F.tmps.getD 28 undef, F.tmps.getD 29 undef, F.tmps.getD 30 undef, F.tmps.getD 31 undef, F.tmps.getD 32 undef, F.tmps.getD 33 undef, F.tmps.getD 34 undef, F.tmps.getD 35 undef, F.tmps.getD 36 undef, F.tmps.getD 37 undef, F.tmps.getD 38 undef, F.tmps.getD 39 undef, F.tmps.getD 40 undef, F.tmps.getD 41 undef, F.tmps.getD 42 undef, F.tmps.getD 43 undef, F.tmps.getD 44 undef, F.tmps.getD 45 undef, F.tmps.getD 46 undef, F.tmps.getD 47 undef, F.tmps.getD 48 undef, F.tmps.getD 49 undef, F.tmps.getD 50 undef, F.tmps.getD 51 undef, F.tmps.getD 52 undef, F.tmps.getD 53 undef, F.tmps.getD 54 undef, F.tmps.getD 55 undef, F.tmps.getD 56 undef, F.tmps.getD 57 undef, F.tmps.getD 58 undef, F.tmps.getD 59 undef, F.tmps.getD 60 undef, F.tmps.getD 61 undef, F.tmps.getD 62 undef, F.tmps.getD 63 undef, F.tmps.getD 64 undef, F.tmps.getD 65 undef, F.tmps.getD 66 undef, F.tmps.getD 67 undef, F.tmps.getD 68 undef, F.tmps.getD 69 undef, F.tmps.getD 70 undef, F.tmps.getD 71 undef, F.tmps.getD 72 undef, F.tmps.getD 73 undef, F.tmps.getD 74 undef, F.tmps.getD 75 undef, F.tmps.getD 76 undef, F.tmps.getD 77 undef, F.tmps.getD 78 undef, F.tmps.getD 79 undef, F.tmps.getD 80 undef, F.tmps.getD 81 undef, F.tmps.getD 82 undef, F.tmps.getD 83 undef, F.tmps.getD 84 undef, F.tmps.getD 85 undef, F.tmps.getD 86 undef, F.tmps.getD 87 undef, F.tmps.getD 88 undef, F.tmps.getD 89 undef, F.tmps.getD 90 undef, F.tmps.getD 91 undef, F.tmps.getD 92 undef, F.tmps.getD 93 undef, F.tmps.getD 94 undef, F.tmps.getD 95 undef, F.tmps.getD 96 undef, F.tmps.getD 97 undef, F.tmps.getD 98 undef, F.tmps.getD 99 undef, F.tmps.getD 100 undef, F.tmps.getD 101 undef, F.tmps.getD 102 undef, F.tmps.getD 103 undef, F.tmps.getD 104 undef, F.tmps.getD 105 undef, F.tmps.getD 106 undef, F.tmps.getD 107 undef, F.tmps.getD 108 undef, F.tmps.getD 109 undef, F.tmps.getD 110 undef, F.tmps.getD 111 undef, F.tmps.getD 112 undef, F.tmps.getD 113 undef, F.tmps.getD 114 undef, F.tmps.getD 115 undef, F.tmps.getD 116 undef, F.tmps.getD 117 undef, F.tmps.getD 118 undef, F.tmps.getD 119 undef, F.tmps.getD 120 undef, F.tmps.getD 121 undef, F.tmps.getD 122 undef, F.tmps.getD 123 undef, F.tmps.getD 124 undef, F.tmps.getD 125 undef, F.tmps.getD 126 undef, F.tmps.getD 127 undef, F.tmps.getD 128 undef, F.tmps.getD 129 undef, F.tmps.getD 130 undef, F.tmps.getD 131 undef, F.tmps.getD 132 undef, F.tmps.getD 133 undef, F.tmps.getD 134 undef, F.tmps.getD 135 undef, F.tmps.getD 136 undef, F.tmps.getD 137 undef, F.tmps.getD 138 undef, F.tmps.getD 139 undef, F.tmps.getD 140 undef, F.tmps.getD 141 undef, F.tmps.getD 142 undef, F.tmps.getD 143 undef, F.tmps.getD 144 undef, F.tmps.getD 145 undef, F.tmps.getD 146 undef, F.tmps.getD 147 undef, F.tmps.getD 148 undef, F.tmps.getD 149 undef, F.tmps.getD 150 undef, F.tmps.getD 151 undef, F.tmps.getD 152 undef, F.tmps.getD 153 undef, F.tmps.getD 154 undef, F.tmps.getD 155 undef, F.tmps.getD 156 undef, F.tmps.getD 157 undef, F.tmps.getD 158 undef, F.tmps.getD 159 undef, F.tmps.getD 160 undef, F.tmps.getD 161 undef, F.tmps.getD 162 undef, F.tmps.getD 163 undef, F.tmps.getD 164 undef, F.tmps.getD 165 undef, F.tmps.getD 166 undef, F.tmps.getD 167 undef, F.tmps.getD 168 undef, F.tmps.getD 169 undef, F.tmps.getD 170 undef, F.tmps.getD 171 undef, F.tmps.getD 172 undef, F.tmps.getD 173 undef, F.tmps.getD 174 undef, F.tmps.getD 175 undef, F.tmps.getD 176 undef, F.tmps.getD 177 undef, F.tmps.getD 178 undef, F.tmps.getD 179 undef, F.tmps.getD 180 undef, F.tmps.getD 181 undef, F.tmps.getD 182 undef, F.tmps.getD 183 undef, F.tmps.getD 184 undef, F.tmps.getD 185 undef, F.tmps.getD 186 undef, F.tmps.getD 187 undef, F.tmps.getD 188 undef, F.tmps.getD 189 undef, F.tmps.getD 190 undef, F.tmps.getD 191 undef, F.tmps.getD 192 undef, F.tmps.getD 193 undef, F.tmps.getD 194 undef, F.tmps.getD 195 undef, F.tmps.getD 196 undef, F.tmps.getD 197 undef, F.tmps.getD 198 undef, F.tmps.getD 199 undef, F.tmps.getD 200 undef, F.tmps.getD 201 undef, F.tmps.getD 202 undef, F.tmps.getD 203 undef, F.tmps.getD 204 undef, F.tmps.getD 205 undef, F.tmps.getD 206 undef, F.tmps.getD 207 undef, F.tmps.getD 208 undef, F.tmps.getD 209 undef, F.tmps.getD 210 undef, F.tmps.getD 211 undef, F.tmps.getD 212 undef, F.tmps.getD 213 undef, F.tmps.getD 214 undef, F.tmps.getD 215 undef, F.tmps.getD 216 undef, F.tmps.getD 217 undef], []⟩ := by
  obtain ⟨hd, hs, h0, h3, h4, h5, h11⟩ := hfr
  have hfq := arr218 F.tmps hs
  rw [h0, h3, h4, h5, h11] at hfq
  exact act_ext hfq hd

def DtR (v2 : Value) (F : Act) : Prop := F.defers = [] ∧ F.tmps.size = 218 ∧ F.tmps.getD 2 undef = v2
set_option maxRecDepth 100000 in
theorem dt_ret {F : Act} {v2 : Value} (hfr : DtR v2 F) : F = ⟨#[F.tmps.getD 0 undef, F.tmps.getD 1 undef, v2, F.tmps.getD 3 undef, F.tmps.getD 4 undef, F.tmps.getD 5 undef, F.tmps.getD 6 undef, F.tmps.getD 7 undef, F.tmps.getD 8 undef, F.tmps.getD 9 undef, F.tmps.getD 10 undef, F.tmps.getD 11 undef, F.tmps.getD 12 undef, F.tmps.getD 13 undef, F.tmps.getD 14 undef, F.tmps.getD 15 undef, F.tmps.getD 16 undef, F.tmps.getD 17 undef, F.tmps.getD 18 undef, F.tmps.getD 19 undef, F.tmps.getD 20 undef, F.tmps.getD 21 undef, F.tmps.getD 22 undef, F.tmps.getD 23 undef, F.tmps.getD 24 undef, F.tmps.getD 25 undef, F.tmps.getD 26 undef, F.tmps.getD 27 undef, F.tmps.getD 28 undef, F.tmps.getD 29 undef, F.tmps.getD 30 undef, F.tmps.getD 31 undef, F.tmps.getD 32 undef, F.tmps.getD 33 undef, F.tmps.getD 34 undef, F.tmps.getD 35 undef, F.tmps.getD 36 undef, F.tmps.getD 37 undef, F.tmps.getD 38 undef, F.tmps.getD 39 undef, F.tmps.getD 40 undef, F.tmps.getD 41 undef, F.tmps.getD 42 undef, F.tmps.getD 43 undef, F.tmps.getD 44 undef, F.tmps.getD 45 undef, F.tmps.getD 46 undef, F.tmps.getD 47 undef, F.tmps.getD 48 undef, F.tmps.getD 49 undef, F.tmps.getD 50 undef, F.tmps.getD 51 undef, F.tmps.getD 52 undef, F.tmps.getD 53 undef, F.tmps.getD 54 undef, F.tmps.getD 55 undef, F.tmps.getD 56 undef, F.tmps.getD 57 undef, F.tmps.getD 58 undef, F.tmps.getD 59 undef, F.tmps.getD 60 undef, F.tmps.getD 61 undef, F.tmps.getD 62 undef, F.tmps.getD 63 undef, F.tmps.getD 64 undef, F.tmps.getD 65 undef, F.tmps.getD 66 undef, F.tmps.getD 67 undef, F.tmps.getD 68 undef, F.tmps.getD 69 undef, F.tmps.getD 70 undef, F.tmps.getD 71 undef, F.tmps.getD 72 undef, F.tmps.getD 73 undef, F.tmps.getD 74 undef, F.tmps.getD 75 undef, F.tmps.getD 76 undef, F.tmps.getD 77 undef, F.tmps.getD 78 undef, F.tmps.getD 79 undef, F.tmps.getD 80 undef, F.tmps.getD 81 undef, F.tmps.getD 82 undef, F.tmps.getD 83 undef, F.tmps.getD 84 undef, F.tmps.getD 85 undef, F.tmps.getD 86 undef, F.tmps.getD 87 undef, F.tmps.getD 88 undef, F.tmps.getD 89 undef, F.tmps.getD 90 undef, F.tmps.getD 91 undef, F.tmps.getD 92 undef, F.tmps.getD 93 undef, F.tmps.getD 94 undef, F.tmps.getD 95 undef, F.tmps.getD 96 undef, F.tmps.getD 97 undef, F.tmps.getD 98 undef, F.tmps.getD 99 undef, F.tmps.getD 100 undef, F.tmps.getD 101 undef, F.tmps.getD 102 undef, F.tmps.getD 103 undef, F.tmps.getD 104 undef, F.tmps.getD 105 undef, F.tmps.getD 106 undef, F.tmps.getD 107 undef, F.tmps.getD 108 undef, F.tmps.getD 109 undef, F.tmps.getD 110 undef, F.tmps.getD 111 undef, F.tmps.getD 112 undef, F.tmps.getD 113 undef, F.tmps.getD 114 undef, F.tmps.getD 115 undef, F.tmps.getD 116 undef, F.tmps.getD 117 undef, F.tmps.getD 118 undef, F.tmps.getD 119 undef, F.tmps.getD 120 undef, F.tmps.getD 121 undef, F.tmps.getD 122 undef, F.tmps.getD 123 undef, F.tmps.getD 124 undef, F.tmps.getD 125 undef, F.tmps.getD 126 undef, F.tmps.getD 127 undef, F.tmps.getD 128 undef, F.tmps.getD 129 undef, F.tmps.getD 130 undef, F.tmps.getD 131 undef, F.tmps.getD 132 undef, F.tmps.getD 133 undef, F.tmps.getD 134 undef, F.tmps.getD 135 undef, F.tmps.getD 136 undef, F.tmps.getD 137 undef, F.tmps.getD 138 undef, F.tmps.getD 139 undef, F.tmps.getD 140 undef, F.tmps.getD 141 undef, F.tmps.getD 142 undef, F.tmps.getD 143 undef, F.tmps.getD 144 undef, F.tmps.getD 145 undef, F.tmps.getD 146 undef, F.tmps.getD 147 undef, F.tmps.getD 148 undef, F.tmps.getD 149 undef, F.tmps.getD 150 undef, F.tmps.getD 151 undef, F.tmps.getD 152 undef, F.tmps.getD 153 undef, F.tmps.getD 154 undef, F.tmps.getD 155 undef, F.tmps.getD 156 undef, F.tmps.getD 157 undef, F.tmps.getD 158 undef, F.tmps.getD 159 undef, F.tmps.getD 160 undef, F.tmps.getD 161 undef, F.tmps.getD 162 undef, F.tmps.getD 163 undef, F.tmps.getD 164 undef, F.tmps.getD 165 undef, F.tmps.getD 166 undef, F.tmps.getD 167 undef, F.tmps.getD 168 undef, F.tmps.getD 169 undef, F.tmps.getD 170 undef, F.tmps.getD 171 undef, F.tmps.getD 172 undef, F.tmps.getD 173 undef, F.tmps.getD 174 undef, F.tmps.getD 175 undef, F.tmps.getD 176 undef, F.tmps.getD 177 undef, F.tmps.getD 178 undef, F.tmps.getD 179 undef, F.tmps.getD 180 undef, F.tmps.getD 181 undef, F.tmps.getD 182 undef, F.tmps.getD 183 undef, F.tmps.getD 184 undef, F.tmps.getD 185 undef, F.tmps.getD 186 undef, F.tmps.getD 187 undef, F.tmps.getD 188 undef, F.tmps.getD 189 undef, F.tmps.getD 190 undef, F.tmps.getD 191 undef, F.tmps.getD 192 undef, F.tmps.getD 193 undef, F.tmps.getD 194 undef, F.tmps.getD 195 undef, F.tmps.getD 196 undef, F.tmps.getD 197 undef, F.tmps.getD 198 undef, F.tmps.getD 199 undef, F.tmps.getD 200 undef, F.tmps.getD 201 undef, F.tmps.getD 202 undef, F.tmps.getD 203 undef, F.tmps.getD 204 undef, F.tmps.getD 205 undef, F.tmps.getD 206 undef, F.tmps.getD 207 undef, F.tmps.getD 208 undef, F.tmps.getD 209 undef, F.tmps.getD 210 undef, F.tmps.getD 211 undef, F.tmps.getD 212 undef, F.tmps.getD 213 undef, F.tmps.getD 214 undef, F.tmps.getD 215 undef, F.tmps.getD 216 undef, F.tmps.getD 217 undef], []⟩ := by
  obtain ⟨hd, hs, h2⟩ := hfr
  have hfq := arr218 F.tmps hs
  rw [h2] at hfq
  exact act_ext hfq hd

theorem dt_any {F : Act} (hd : F.defers = []) (hs : F.tmps.size = 218) : DtR (F.tmps.getD 2 undef) F := ⟨hd, hs, rfl⟩
/-- the greatest free place -/
def hiV (hi : Nat) : Int := if hi = 0 then 4294967295 else (hi : Int) - 1
/-- the memory while the table is built -/
def DtW (w : World) (D h S : Nat) (f : Nat → Value) (zb : Bool) (a b c : Nat → Nat) (nx : Nat → Value) (wr : World) : Prop :=
  RowF wr D 98 534 (updV f 530 (.bool zb)) ∧ RowF wr h 162 (3 * S) (dcV a b c) ∧ RowF wr (h + 1) 5 256 (fun _ => .int .u8 0) ∧ RowF wr (h + 2) 37 256 nx ∧ Only (· = D) w wr
section
variable {w wr : World} {D h S : Nat} {f : Nat → Value} {zb : Bool} {a b c a' b' c' : Nat → Nat} {nx nx' : Nat → Value}
theorem DtW.drewN (H : DtW w D h S f zb a b c nx wr) (q : Nat) : DtW w D h S f zb a b c nx (wr.drewN q) :=
  ⟨H.1.drewN q, H.2.1.drewN q, H.2.2.1.drewN q, H.2.2.2.1.drewN q, H.2.2.2.2.drewN q⟩
theorem DtW.alloc (H : DtW w D h S f zb a b c nx wr) (o : Obj) : DtW w D h S f zb a b c nx (wr.alloc o) :=
  ⟨H.1.alloc o, H.2.1.alloc o, H.2.2.1.alloc o, H.2.2.2.1.alloc o, H.2.2.2.2.alloc o⟩
theorem DtW.cgN (H : DtW w D h S f zb a b c nx wr) (hf : ∀ k, k < 256 → nx k = nx' k) : DtW w D h S f zb a b c nx' wr :=
  ⟨H.1, H.2.1, H.2.2.1, H.2.2.2.1.congr hf, H.2.2.2.2⟩
/-- a store to a block above -/
theorem Only.setNew (H : Only (· = D) w wr) {p : Addr} (hp : w.heap.size ≤ p.block) (v : Value) : Only (· = D) w (wr.setCell p v) :=
  ⟨H.os, H.tape, H.output, by rw [setCell_size]; exact H.size, fun k hk hk2 => (setCell_heap v (by omega)).trans (H.block k hk hk2), fun k hk T N hr => by
    obtain ⟨f, hf⟩ := H.rows k hk T N hr
    exact hf.setAny p v⟩
theorem DtW.setZ (H : DtW w D h S f zb a b c nx wr) (hD : D < h) (z : Bool) : DtW w D h S f z a b c nx (wr.setCell ⟨D, 530, none⟩ (.bool z)) := by
  refine ⟨(H.1.set_ 530 _).congr fun k _ => ?_, H.2.1.other _ (show D ≠ h by omega), H.2.2.1.other _ (show D ≠ h + 1 by omega), H.2.2.2.1.other _ (show D ≠ h + 2 by omega), H.2.2.2.2.set_ rfl _⟩
  unfold updV
  by_cases e : k = 530
  · rw [if_pos e, if_pos e]
  · simp only [if_neg e]
theorem DtW.setN (H : DtW w D h S f zb a b c nx wr) (hD : D < h) (hw : w.heap.size ≤ h) (k : Nat) (v : Value) : DtW w D h S f zb a b c (updV nx k v) (wr.setCell ⟨h + 2, k, none⟩ v) :=
  ⟨H.1.other _ (show h + 2 ≠ D by omega), H.2.1.other _ (show h + 2 ≠ h by omega), H.2.2.1.other _ (show h + 2 ≠ h + 1 by omega), H.2.2.2.1.set_ k v, H.2.2.2.2.setNew (show w.heap.size ≤ h + 2 by omega) v⟩
theorem DtW.setT (H : DtW w D h S f zb a b c nx wr) (hD : D < h) (hw : w.heap.size ≤ h) (j : Nat) (v : Value) (hf : ∀ k, k < 3 * S → updV (dcV a b c) j v k = dcV a' b' c' k) : DtW w D h S f zb a' b' c' nx (wr.setCell ⟨h, j, none⟩ v) :=
  ⟨H.1.other _ (show h ≠ D by omega), (H.2.1.set_ j v).congr hf, H.2.2.1.other _ (show h ≠ h + 1 by omega), H.2.2.2.1.other _ (show h ≠ h + 2 by omega), H.2.2.2.2.setNew (show w.heap.size ≤ h by omega) v⟩
end
theorem cell_new20 (w : World) (g : Nat) (v v2 : Value) (T : TypeId) (hg : g = w.heap.size) : (w.alloc (.cells #[v, v2] T)).cell? ⟨g, 0, none⟩ = some v := by
  subst hg
  exact cell_of_row _ _ 0 _ _ (0, 0) (heap_alloc_new _ _)
theorem cell_new21 (w : World) (g : Nat) (v v2 : Value) (T : TypeId) (hg : g = w.heap.size) : (w.alloc (.cells #[v, v2] T)).cell? ⟨g, 1, none⟩ = some v2 := by
  subst hg
  exact cell_of_row _ _ 1 _ _ (0, 0) (heap_alloc_new _ _)
theorem dcV_a (a b c : Nat → Nat) (p v N : Nat) : ∀ k, k < N → updV (dcV a b c) (p * 3 + 1) (.int .u8 (v : Nat)) k = dcV (upd a p v) b c k := by
  intro k _
  unfold updV dcV upd
  by_cases h : k = p * 3 + 1
  · subst h
    rw [if_pos rfl, if_neg (by omega), if_pos (by omega), if_pos (by omega)]
  · rw [if_neg h]
    by_cases h0 : k % 3 = 0
    · rw [if_pos h0, if_pos h0]
    · rw [if_neg h0, if_neg h0]
      by_cases h1 : k % 3 = 1
      · rw [if_pos h1, if_pos h1, if_neg (by omega)]
      · rw [if_neg h1, if_neg h1]
theorem dcV_b (a b c : Nat → Nat) (p v N : Nat) : ∀ k, k < N → updV (dcV a b c) (p * 3 + 2) (.int .u8 (v : Nat)) k = dcV a (upd b p v) c k := by
  intro k _
  unfold updV dcV upd
  by_cases h : k = p * 3 + 2
  · subst h
    rw [if_pos rfl, if_neg (by omega), if_neg (by omega), if_pos (by omega)]
  · rw [if_neg h]
    by_cases h0 : k % 3 = 0
    · rw [if_pos h0, if_pos h0]
    · rw [if_neg h0, if_neg h0]
      by_cases h1 : k % 3 = 1
      · rw [if_pos h1, if_pos h1]
      · rw [if_neg h1, if_neg h1, if_neg (by omega)]
theorem dcV_c (a b c : Nat → Nat) (p v N : Nat) : ∀ k, k < N → updV (dcV a b c) (p * 3) (.int .u16 (v : Nat)) k = dcV a b (upd c p v) k := by
  intro k _
  unfold updV dcV upd
  by_cases h : k = p * 3
  · subst h
    rw [if_pos rfl, if_pos (by omega), if_pos (by omega)]
  · rw [if_neg h]
    by_cases h0 : k % 3 = 0
    · rw [if_pos h0, if_pos h0, if_neg (by omega)]
    · rw [if_neg h0, if_neg h0]
/-- the next numbers while they are laid -/
def nuV (cs : List Int) (k : Nat) : Nat → Value := fun j => .int .u16 (if j < k then nxt cs j else 0 : Nat)
def nuW (cs : List Int) (S i : Nat) : Nat → Value := fun j => .int .u16 (nxt cs j + cnt (symF cs S) i j : Nat)
theorem nuV_step (cs : List Int) (k v : Nat) (hv : nxt cs k = v) : ∀ j, j < 256 → updV (nuV cs k) k (.int .u16 (v : Nat)) j = nuV cs (k + 1) j := by
  intro j _
  unfold updV nuV
  by_cases h : j = k
  · subst h; rw [if_pos rfl, if_pos (by omega), hv]
  · rw [if_neg h]
    by_cases h2 : j < k
    · rw [if_pos h2, if_pos (by omega)]
    · rw [if_neg h2, if_neg (by omega)]
theorem nuV_all (cs : List Int) (S : Nat) : ∀ j, j < 256 → nuV cs cs.length j = nuW cs S 0 j := by
  intro j _
  unfold nuV nuW
  rw [show cnt (symF cs S) 0 j = 0 by simp [cnt], Nat.add_zero]
  by_cases h : j < cs.length
  · rw [if_pos h]
  · rw [if_neg h]
    have e : cs.getD j 0 = 0 := by rw [List.getD_eq_getElem?_getD, List.getElem?_eq_none (by omega)]; rfl
    unfold nxt
    rw [e]
    rfl
theorem nuW_step (cs : List Int) (S i s o : Nat) (hs : symF cs S i = s) (ho : nxt cs s + cnt (symF cs S) i s = o) : ∀ j, j < 256 → updV (nuW cs S i) s (.int .u16 (o + 1 : Nat)) j = nuW cs S (i + 1) j := by
  intro j _
  unfold updV nuW
  rw [cnt_succ, hs]
  by_cases h : j = s
  · subst h; rw [if_pos rfl, if_pos rfl, ← Nat.add_assoc, ho]
  · rw [if_neg h, if_neg (Ne.symm h)]
    rfl
def RelU (S h r : Nat) (av : Value) : Prop := ∃ b f : Nat, av = .int .u32 (b : Nat) ∧ b < S ∧ (if b < h then b else nxF S h f b) = r
theorem relU_start (S h a : Nat) (hS : S = 32 ∨ S = 64) : RelU S h (nextAt S h a) (.int .u32 ((a + stepOf S) % S : Nat)) := by
  refine ⟨(a + stepOf S) % S, S - 1, rfl, Nat.mod_lt _ (by omega), ?_⟩
  unfold nextAt
  rcases hS with rfl | rfl <;> rfl
theorem relU_step (S h r b f : Nat) (hS : S = 32 ∨ S = 64) (hbh : h ≤ b) (hr : r < h) (he : (if b < h then b else nxF S h f b) = r) : RelU S h r (.int .u32 ((b + stepOf S) % S : Nat)) := by
  rw [if_neg (by omega)] at he
  cases f with
  | zero => unfold nxF at he; omega
  | succ f => exact ⟨_, f, rfl, Nat.mod_lt _ (by omega), he⟩
/-- what the table's building comes to, in the memory -/
def DtGood (w : World) (cs : List Int) (lg D h : Nat) (f : Nat → Value) (w' : World) : Prop :=
  ∃ zb, (zb = false → ∀ j, cs.getD j 0 < (2 ^ (lg - 1) : Nat)) ∧ DtW w D h (2 ^ lg) f zb (symF cs (2 ^ lg)) (bitsF cs lg) (baseF cs lg) (nuW cs (2 ^ lg) (2 ^ lg)) w'
def DRel1 (w : World) (D h S m lg : Nat) (cs : List Int) (f : Nat → Value) (v4 v55 : Value) (wr : World) : Prop :=
  ∃ (k hi : Nat) (zb : Bool), k ≤ m ∧ v4 = .int .u32 (hiV hi) ∧ v55 = .int .i64 (k : Nat) ∧ (lowK cs S k).1 = hi ∧ (zb = false → ∀ j, j < k → cs.getD j 0 < (2 ^ (lg - 1) : Nat)) ∧ DtW w D h S f zb (fun i => cv ((lowK cs S k).2 i)) zf zf (nuV cs k) wr
def DRel2 (w : World) (D h S m : Nat) (cs : List Int) (f : Nat → Value) (zb : Bool) (v11 v101 : Value) (wr : World) : Prop :=
  ∃ k : Nat, k ≤ m ∧ v11 = .int .u32 (orb S (highF cs S) (preK cs k) : Nat) ∧ v101 = .int .i64 (k : Nat) ∧ DtW w D h S f zb (fun i => cv (layT cs S (preK cs k) i)) zf zf (nuV cs m) wr
def DRel3 (w : World) (D h S m : Nat) (cs : List Int) (f : Nat → Value) (zb : Bool) (k n : Nat) (v11 v14 : Value) (wr : World) : Prop :=
  ∃ j : Nat, j ≤ n ∧ v11 = .int .u32 (orb S (highF cs S) (preK cs k + j) : Nat) ∧ v14 = .int .i64 (j : Nat) ∧ DtW w D h S f zb (fun i => cv (layT cs S (preK cs k + j) i)) zf zf (nuV cs m) wr
def DRel5 (w : World) (D h S lg : Nat) (cs : List Int) (f : Nat → Value) (zb : Bool) (v148 : Value) (wr : World) : Prop :=
  ∃ i : Nat, i ≤ S ∧ v148 = .int .i64 (i : Nat) ∧ (∀ j, j < i → ¬ (bitsF cs lg j = 0 ∧ baseF cs lg j = j)) ∧ DtW w D h S f zb (fun k => cv (symF cs S k)) (fun k => if k < i then bitsF cs lg k else 0) (fun k => if k < i then baseF cs lg k else 0) (nuW cs S i) wr
end Go.Proofs.YthkklojjpgjiiaaFmt
