/-
  huff0.Scratch.prepare. Conditions: those of the theorem.
-/
import Derived.Test.YthkklojjpgjiiaaFmtCodeT12
import Derived.Test.YthkklojjpgjiiaaFmtCodeT10
namespace Go.Proofs.YthkklojjpgjiiaaFmt
open Go.RowKit Go.Extern.Stop Go.Stop Go.Extern

/-- a new scratch of huff0, a new one of fse -/
noncomputable def hz0 : Nat → Value := fun k => Tryf.zeroCells58.getD k undef
noncomputable def fz0 : Nat → Value := fun k => Tryf.zeroCells98.getD k undef
theorem getD_run (a : Array Value) (n : Nat) (h : a.size = n) : ∀ k, k < n → a[k]? = some (a.getD k undef) := fun k hk => by
  rw [Array.getD_eq_getD_getElem?, Array.getElem?_eq_getElem (by omega)]
  rfl
theorem hz_size : Tryf.zeroCells58.size = 540 := by kernel_rfl
theorem fz_size : Tryf.zeroCells98.size = 534 := by kernel_rfl
theorem info_node : (Tryf.prog.info? 110).map (fun i => (i.zero, i.size, i.bytes)) = some (some (.int .u64 0), 1, 8) := by kernel_rfl
theorem info_u8p : (Tryf.prog.info? 5).map (fun i => (i.zero, i.size, i.bytes)) = some (some (.int .u8 0), 1, 1) := by kernel_rfl
theorem make_cap (t e : TypeId) (z : Value) (bytes m : Nat) (ht : Tryf.prog.underlying t = some (.slice e)) (hi : (Tryf.prog.info? e).map (fun i => (i.zero, i.size, i.bytes)) = some (some z, 1, bytes)) (hb : bytes * m ≤ 1000000) (hb1 : 1 ≤ bytes) (mi : Int) (hm : mi = m) :
    ∃ arr : Array Value, ∀ w, (Instr.makeSlice t (.int .i64 0) (.int .i64 mi)).run Tryf.prog w = .ok (.slice (some ⟨w.heap.size, 0, none⟩) 0 m) (w.alloc (.cells arr e)) := by
  obtain ⟨i, h1, h2, h3, h4⟩ := info_parts hi
  subst hm
  refine ⟨madeCells z.cells ((m : Int).toNat * i.size), fun w => ?_⟩
  have hm2 : m ≤ 1000000 := Nat.le_trans (Nat.le_mul_of_pos_left m hb1) hb
  have h := run_make (P := Tryf.prog) w t e i z ht h1 h2 .i64 .i64 0 m (by omega) (by omega) (by rw [h4]; have h5 : ((bytes * m : Nat) : Int) ≤ 1000000 := (by omega); rw [Int.natCast_mul] at h5; omega) (by omega)
  simp only [Int.toNat_natCast] at h ⊢
  exact h
/-- what prepare makes: a scratch of huff0 and one of fse -/
def HufPost (w : World) (e : Ending) (w' : World) : Prop :=
  ∃ D f, e = .returned (.tuple #[.pointer (some ⟨w.heap.size, 0, none⟩), .nilIface]) ∧ w.heap.size < D ∧ RowF w' w.heap.size 58 540 f ∧ f 278 = .pointer (some ⟨D, 0, none⟩) ∧
    RowF w' D 98 534 fz0 ∧ Below w.heap.size w w' ∧ ∀ k, k < 540 → (k < 256 ∨ 262 < k) → k ≠ 273 → k ≠ 278 → f k = hz0 k
set_option maxRecDepth 100000 in
set_option maxHeartbeats 3200000 in
theorem hufPrep_any (w : World) :
    Calls Tryf.prog 18 #[.pointer none, .slice none 0 0] w (HufPost w) := by
  obtain ⟨ab, hmk0⟩ := make_cap 28 5 (.int .u8 0) 1 0 Tryf.underlying28 info_u8p (by omega) (by omega) 0 rfl
  obtain ⟨an, hmk1⟩ := make_cap 47 110 (.int .u64 0) 8 513 Tryf.underlying47 info_node (by omega) (by omega) 513 rfl
  go_enter Tryf.func18, Tryf.ntmps18
  go_upto_region 5 with fail
  have hR : RowF (w.alloc (.cells Tryf.zeroCells58 58)) w.heap.size 58 540 hz0 := ⟨_, heap_alloc_new _ _, hz_size, getD_run _ 540 hz_size⟩
  have hB := below_new w (.cells Tryf.zeroCells58 58)
  generalize hw1 : World.alloc w _ = w1 at hR hB ⊢
  obtain ⟨g, hg⟩ : ∃ g, w.heap.size = g := ⟨_, rfl⟩
  rw [hg] at hR hB ⊢
  have q261 : w1.cell? ⟨g, 261, none⟩ = some (.int .u8 0) := hR.cellv 261 (by omega) _ (by kernel_rfl)
  have z261 := hR.frozen 261
  have q262 : w1.cell? ⟨g, 262, none⟩ = some (.int .u8 0) := hR.cellv 262 (by omega) _ (by kernel_rfl)
  have z262 := hR.frozen 262
  have q259 : w1.cell? ⟨g, 259, none⟩ = some (.int .i64 0) := hR.cellv 259 (by omega) _ (by kernel_rfl)
  have z259 := hR.frozen 259
  have q267 : w1.cell? ⟨g, 267, none⟩ = some (.bool false) := hR.cellv 267 (by omega) _ (by kernel_rfl)
  have z267 := hR.frozen 267
  have q256 : w1.cell? ⟨g, 256, none⟩ = some (.slice none 0 0) := hR.cellv 256 (by omega) _ (by kernel_rfl)
  have z256 := hR.frozen 256
  have hR2 := ((hR.set_ 261 (.int .u8 255)).set_ 262 (.int .u8 11)).set_ 259 (.int .i64 262143)
  have hB2 := ((hB.setCell (p := ⟨g, 261, none⟩) (Nat.le_refl _) (.int .u8 255)).setCell (p := ⟨g, 262, none⟩) (Nat.le_refl _) (.int .u8 11)).setCell (p := ⟨g, 259, none⟩) (Nat.le_refl _) (.int .i64 262143)
  have HR2 := Lib.hid hR2
  have HB2 := Lib.hid hB2
  have HG := Lib.hid hg
  clear hR hB hR2 hB2 hw1 hg
  go_upto_region 20 with fail
  generalize hw2 : World.setCell (World.setCell (World.setCell w1 _ _) _ _) _ _ = w2
  have hR := HR2.out
  have hB := HB2.out
  rw [hw2] at hR hB
  have q256 : w2.cell? ⟨g, 256, none⟩ = some (.slice none 0 0) := hR.cellv 256 (by omega) _ (by kernel_rfl)
  have z256 := hR.frozen 256
  have q257 : w2.cell? ⟨g, 257, none⟩ = some (.slice none 0 0) := hR.cellv 257 (by omega) _ (by kernel_rfl)
  have z257 := hR.frozen 257
  have q258 : w2.cell? ⟨g, 258, none⟩ = some (.slice none 0 0) := hR.cellv 258 (by omega) _ (by kernel_rfl)
  have z258 := hR.frozen 258
  have q273 : w2.cell? ⟨g, 273, none⟩ = some (.slice none 0 0) := hR.cellv 273 (by omega) _ (by kernel_rfl)
  have z273 := hR.frozen 273

  have hlt := hR.lt
  have HR3 := Lib.hid hR
  have HB3 := Lib.hid hB
  clear hR hB hw2 HR2 HB2 q261 z261 q262 z262 q259 z259 q267 z267
  go_upto_region 25 with fail
  go_upto_region 28 with fail
  obtain ⟨z2, hz2⟩ : ∃ z2, w2.heap.size = z2 := ⟨_, rfl⟩
  rw [hz2] at hlt ⊢
  have hR := ((((((HR3.out.set_ 256 (.slice (some ⟨z2, 0, none⟩) 0 0)).set_ 256 (.slice (some ⟨z2, 0, none⟩) 0 0)).set_ 257 (.slice none 0 0)).set_ 258 (.slice none 0 0)).set_ 273 (.slice (some ⟨z2 + 1, 0, none⟩) 0 513)).set_ 273 (.slice (some ⟨z2 + 1, 0, none⟩) 0 513)).alloc (.cells ab 5)
  have hR := hR.alloc (.cells an 110)
  have hB := ((((((HB3.out.setCell (p := ⟨g, 256, none⟩) (Nat.le_refl _) (.slice (some ⟨z2, 0, none⟩) 0 0)).setCell (p := ⟨g, 256, none⟩) (Nat.le_refl _) (.slice (some ⟨z2, 0, none⟩) 0 0)).setCell (p := ⟨g, 257, none⟩) (Nat.le_refl _) (.slice none 0 0)).setCell (p := ⟨g, 258, none⟩) (Nat.le_refl _) (.slice none 0 0)).setCell (p := ⟨g, 273, none⟩) (Nat.le_refl _) (.slice (some ⟨z2 + 1, 0, none⟩) 0 513)).setCell (p := ⟨g, 273, none⟩) (Nat.le_refl _) (.slice (some ⟨z2 + 1, 0, none⟩) 0 513))
  have hB := hB.trans ((below_new _ (.cells ab 5)).mono (by simp; omega))
  have hB := hB.trans ((below_new _ (.cells an 110)).mono (by simp; omega))
  generalize hw3 : World.alloc (World.alloc _ _) _ = w3 at hR hB ⊢
  have q278 : w3.cell? ⟨g, 278, none⟩ = some (.pointer none) := hR.cellv 278 (by omega) _ (by kernel_rfl)
  have z278 := hR.frozen 278
  have q260 : w3.cell? ⟨g, 260, none⟩ = some (.int .i64 0) := hR.cellv 260 (by omega) _ (by kernel_rfl)
  have z260 := hR.frozen 260
  have hlt3 := hR.lt
  have HR4 := Lib.hid hR
  have HB4 := Lib.hid hB
  clear hR hB hw3 HR3 HB3 q256 z256 q257 z257 q258 z258 q273 z273 hlt hz2
  go_wp2_with fail
  go_ret2
  obtain ⟨D, hD⟩ : ∃ D, w3.heap.size = D := ⟨_, rfl⟩
  rw [hD] at hlt3 ⊢
  have hR5 := ((HR4.out.set_ 278 (.pointer (some ⟨D, 0, none⟩))).set_ 260 (.int .i64 0)).alloc (.cells Tryf.zeroCells98 98)
  have hB5 := ((HB4.out.setCell (p := ⟨g, 278, none⟩) (Nat.le_refl _) (.pointer (some ⟨D, 0, none⟩))).setCell (p := ⟨g, 260, none⟩) (Nat.le_refl _) (.int .i64 0)).trans ((below_new _ (.cells Tryf.zeroCells98 98)).mono (by simp; omega))
  have hN : RowF (World.alloc (World.setCell (World.setCell w3 ⟨g, 278, none⟩ (.pointer (some ⟨D, 0, none⟩))) ⟨g, 260, none⟩ (.int .i64 0)) (.cells Tryf.zeroCells98 98)) D 98 534 fz0 := by
    refine ⟨_, ?_, fz_size, getD_run _ 534 fz_size⟩
    rw [← hD]
    have := heap_alloc_new (World.setCell (World.setCell w3 ⟨g, 278, none⟩ (.pointer (some ⟨w3.heap.size, 0, none⟩))) ⟨g, 260, none⟩ (.int .i64 0)) (.cells Tryf.zeroCells98 98)
    simpa using this
  unfold HufPost
  rw [HG.out]
  refine ⟨D, _, rfl, by omega, hR5, ?_, hN, hB5, fun k hk h1 h2 h3 => ?_⟩
  · rw [updV_ne _ _ _ _ (by omega), updV_same]
  · rw [updV_ne _ _ _ _ (by omega), updV_ne _ _ _ _ (by omega), updV_ne _ _ _ _ (by omega), updV_ne _ _ _ _ (by omega), updV_ne _ _ _ _ (by omega), updV_ne _ _ _ _ (by omega), updV_ne _ _ _ _ (by omega), updV_ne _ _ _ _ (by omega), updV_ne _ _ _ _ (by omega), updV_ne _ _ _ _ (by omega), updV_ne _ _ _ _ (by omega)]
end Go.Proofs.YthkklojjpgjiiaaFmt
