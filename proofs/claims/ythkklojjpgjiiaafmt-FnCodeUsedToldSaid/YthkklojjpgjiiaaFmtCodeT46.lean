/-
  huff0's prepare with a new scratch given. Conditions: those of the theorem.
-/
import Derived.Test.YthkklojjpgjiiaaFmtCodeT39
import Derived.Test.YthkklojjpgjiiaaFmtCodeT18
namespace Go.Proofs.YthkklojjpgjiiaaFmt
open Go.RowKit Go.Extern.Stop Go.Stop Go.Extern

theorem make_nodes : ∃ arr : Array Value, arr.size = 513 ∧ (∀ k, k < 513 → arr[k]? = some (.int .u64 0)) ∧ ∀ w, (Instr.makeSlice 47 (.int .i64 0) (.int .i64 513)).run Tryf.prog w = .ok (.slice (some ⟨w.heap.size, 0, none⟩) 0 513) (w.alloc (.cells arr 110)) := by
  obtain ⟨i, h1, h2, h3, h4⟩ := info_parts info_node
  refine ⟨madeCells (Value.int .u64 0).cells 513, by simp [size_madeCells], fun k hk => ?_, fun w => ?_⟩
  · rw [madeCells_get _ _ _ hk]
    show some ((#[Value.int .u64 0] : Array Value)[k % 1]!) = _
    rw [Nat.mod_one]
    rfl
  · have h := run_make (P := Tryf.prog) w 47 110 i _ Tryf.underlying47 h1 h2 .i64 .i64 0 513 (by omega) (by omega) (by rw [h4]; omega) (by omega)
    rw [h3] at h
    exact h
set_option maxRecDepth 100000 in
set_option maxHeartbeats 3200000 in
theorem hufPrepS_any {w : World} {g : Nat} (hR : RowF w g 58 540 hz0) :
    Calls Tryf.prog 18 #[.pointer (some ⟨g, 0, none⟩), .slice none 0 0] w fun e w' => e = .returned (.tuple #[.pointer (some ⟨g, 0, none⟩), .nilIface]) ∧ ∃ (G : Nat) (f' : Nat → Value), RowF w' g 58 540 f' ∧ RowF w' G 110 513 (ndV fun _ => 0) ∧ w.heap.size ≤ G ∧ f' 273 = .slice (some ⟨G, 0, none⟩) 0 513 ∧ f' 262 = .int .u8 11 ∧ (∀ k, k < 540 → (k < 256 ∨ 262 < k) → k ≠ 273 → k ≠ 278 → f' k = hz0 k) ∧ Only (fun k => k = g ∨ w.heap.size ≤ k) w w' := by
  obtain ⟨ab, hmk0⟩ := make_cap 28 5 (.int .u8 0) 1 0 Tryf.underlying28 info_u8p (by omega) (by omega) 0 rfl
  obtain ⟨an, san, han, hmk1⟩ := make_nodes
  have HSN := Lib.hid san
  have HAN := Lib.hid han
  clear san han
  have hO := Only.refl (fun k => k = g ∨ w.heap.size ≤ k) w
  have q261 : w.cell? ⟨g, 261, none⟩ = some (.int .u8 0) := hR.cellv 261 (by omega) _ (by kernel_rfl)
  have z261 := hR.frozen 261
  have q262 : w.cell? ⟨g, 262, none⟩ = some (.int .u8 0) := hR.cellv 262 (by omega) _ (by kernel_rfl)
  have z262 := hR.frozen 262
  have q259 : w.cell? ⟨g, 259, none⟩ = some (.int .i64 0) := hR.cellv 259 (by omega) _ (by kernel_rfl)
  have z259 := hR.frozen 259
  have q267 : w.cell? ⟨g, 267, none⟩ = some (.bool false) := hR.cellv 267 (by omega) _ (by kernel_rfl)
  have z267 := hR.frozen 267
  have q256 : w.cell? ⟨g, 256, none⟩ = some (.slice none 0 0) := hR.cellv 256 (by omega) _ (by kernel_rfl)
  have z256 := hR.frozen 256
  have hR2 := ((hR.set_ 261 (.int .u8 255)).set_ 262 (.int .u8 11)).set_ 259 (.int .i64 262143)
  have hO2 := ((hO.set_ (p := ⟨g, 261, none⟩) (.inl rfl) (.int .u8 255)).set_ (p := ⟨g, 262, none⟩) (.inl rfl) (.int .u8 11)).set_ (p := ⟨g, 259, none⟩) (.inl rfl) (.int .i64 262143)
  have HR2 := Lib.hid hR2
  have HO2 := Lib.hid hO2
  clear hR hO hR2 hO2
  go_enter Tryf.func18, Tryf.ntmps18
  go_upto_region 20 with fail
  generalize hw2 : World.setCell (World.setCell (World.setCell w _ _) _ _) _ _ = w2
  have hR := HR2.out
  have hO := HO2.out
  rw [hw2] at hR hO
  have q256 : w2.cell? ⟨g, 256, none⟩ = some (.slice none 0 0) := hR.cellv 256 (by omega) _ (by kernel_rfl)
  have z256 := hR.frozen 256
  have q257 : w2.cell? ⟨g, 257, none⟩ = some (.slice none 0 0) := hR.cellv 257 (by omega) _ (by kernel_rfl)
  have z257 := hR.frozen 257
  have q258 : w2.cell? ⟨g, 258, none⟩ = some (.slice none 0 0) := hR.cellv 258 (by omega) _ (by kernel_rfl)
  have z258 := hR.frozen 258
  have q273 : w2.cell? ⟨g, 273, none⟩ = some (.slice none 0 0) := hR.cellv 273 (by omega) _ (by kernel_rfl)
  have z273 := hR.frozen 273
  have hlt := hR.lt
  have hsz := hO.size
  have HR3 := Lib.hid hR
  have HO3 := Lib.hid hO
  have HSZ := Lib.hid hsz
  clear hR hO hw2 HR2 HO2 q261 z261 q262 z262 q259 z259 q267 z267 hsz
  go_upto_region 25 with fail
  go_upto_region 28 with fail
  obtain ⟨z2, hz2⟩ : ∃ z2, w2.heap.size = z2 := ⟨_, rfl⟩
  rw [hz2] at hlt ⊢
  have hR := ((((((HR3.out.set_ 256 (.slice (some ⟨z2, 0, none⟩) 0 0)).set_ 256 (.slice (some ⟨z2, 0, none⟩) 0 0)).set_ 257 (.slice none 0 0)).set_ 258 (.slice none 0 0)).set_ 273 (.slice (some ⟨z2 + 1, 0, none⟩) 0 513)).set_ 273 (.slice (some ⟨z2 + 1, 0, none⟩) 0 513)).alloc (.cells ab 5)
  have hR := hR.alloc (.cells an 110)
  have hO := (((((((HO3.out.set_ (p := ⟨g, 256, none⟩) (.inl rfl) (.slice (some ⟨z2, 0, none⟩) 0 0)).set_ (p := ⟨g, 256, none⟩) (.inl rfl) (.slice (some ⟨z2, 0, none⟩) 0 0)).set_ (p := ⟨g, 257, none⟩) (.inl rfl) (.slice none 0 0)).set_ (p := ⟨g, 258, none⟩) (.inl rfl) (.slice none 0 0)).set_ (p := ⟨g, 273, none⟩) (.inl rfl) (.slice (some ⟨z2 + 1, 0, none⟩) 0 513)).set_ (p := ⟨g, 273, none⟩) (.inl rfl) (.slice (some ⟨z2 + 1, 0, none⟩) 0 513)).alloc (.cells ab 5)).alloc (.cells an 110)
  have hN := fun (wx : World) (h : wx.heap.size = z2 + 1) => (show RowF (wx.alloc (.cells an 110)) (z2 + 1) 110 513 (ndV fun _ => 0) from h ▸ ⟨an, heap_alloc_new _ _, HSN.out, HAN.out⟩)
  have hN := hN (((((((w2.setCell ⟨g, 256, none⟩ (.slice (some ⟨z2, 0, none⟩) 0 0)).setCell ⟨g, 256, none⟩ (.slice (some ⟨z2, 0, none⟩) 0 0)).setCell ⟨g, 257, none⟩ (.slice none 0 0)).setCell ⟨g, 258, none⟩ (.slice none 0 0)).setCell ⟨g, 273, none⟩ (.slice (some ⟨z2 + 1, 0, none⟩) 0 513)).setCell ⟨g, 273, none⟩ (.slice (some ⟨z2 + 1, 0, none⟩) 0 513)).alloc (.cells ab 5)) (by simp [hz2])
  generalize hw3 : World.alloc (World.alloc _ _) _ = w3 at hR hO hN ⊢
  have q278 : w3.cell? ⟨g, 278, none⟩ = some (.pointer none) := hR.cellv 278 (by omega) _ (by kernel_rfl)
  have z278 := hR.frozen 278
  have q260 : w3.cell? ⟨g, 260, none⟩ = some (.int .i64 0) := hR.cellv 260 (by omega) _ (by kernel_rfl)
  have z260 := hR.frozen 260
  have hlt3 := hR.lt
  have HR4 := Lib.hid hR
  have HO4 := Lib.hid hO
  have HN4 := Lib.hid hN
  have HZ2 := Lib.hid hz2
  clear hR hO hN hw3 HR3 HO3 q256 z256 q257 z257 q258 z258 q273 z273 hz2
  go_wp2_with fail
  go_ret2
  obtain ⟨D, hD⟩ : ∃ D, w3.heap.size = D := ⟨_, rfl⟩
  rw [hD] at hlt3 ⊢
  have hR5 := ((HR4.out.set_ 278 (.pointer (some ⟨D, 0, none⟩))).set_ 260 (.int .i64 0)).alloc (.cells Tryf.zeroCells98 98)
  have hO5 := ((HO4.out.set_ (p := ⟨g, 278, none⟩) (.inl rfl) (.pointer (some ⟨D, 0, none⟩))).set_ (p := ⟨g, 260, none⟩) (.inl rfl) (.int .i64 0)).alloc (.cells Tryf.zeroCells98 98)
  have hgz : g ≠ z2 + 1 := by omega
  have hN5 := ((HN4.out.other (p := ⟨g, 278, none⟩) (.pointer (some ⟨D, 0, none⟩)) hgz).other (p := ⟨g, 260, none⟩) (.int .i64 0) hgz).alloc (.cells Tryf.zeroCells98 98)
  refine ⟨rfl, z2 + 1, _, hR5, hN5, by have := HSZ.out; have := HZ2.out; omega, ?_, ?_, fun k hk h1 h2 h3 => ?_, hO5⟩
  · rw [updV_ne _ _ _ _ (by omega), updV_ne _ _ _ _ (by omega), updV_same]
  · rw [updV_ne _ _ _ _ (by omega), updV_ne _ _ _ _ (by omega), updV_ne _ _ _ _ (by omega), updV_ne _ _ _ _ (by omega), updV_ne _ _ _ _ (by omega), updV_ne _ _ _ _ (by omega), updV_ne _ _ _ _ (by omega), updV_ne _ _ _ _ (by omega), updV_ne _ _ _ _ (by omega), updV_same]
  · rw [updV_ne _ _ _ _ (by omega), updV_ne _ _ _ _ (by omega), updV_ne _ _ _ _ (by omega), updV_ne _ _ _ _ (by omega), updV_ne _ _ _ _ (by omega), updV_ne _ _ _ _ (by omega), updV_ne _ _ _ _ (by omega), updV_ne _ _ _ _ (by omega), updV_ne _ _ _ _ (by omega), updV_ne _ _ _ _ (by omega), updV_ne _ _ _ _ (by omega)]
end Go.Proofs.YthkklojjpgjiiaaFmt
