/-
  spec.TellBlock: what the header of a block tells. Conditions: those of each.
-/
import Derived.Test.YtiobfiepapflaaaDoorTellB
namespace Go.Proofs.YtiobfiepapflaaaDoor
open Go.RowKit

/-- a block of which nothing is known -/
abbrev bkZ : Array Value := #[.bool false, .bool false, .bool false, .int .i64 0, .int .i64 0]
/-- what is told of a block -/
abbrev bkA (last comp : Bool) (out size : Int) : Array Value := #[.bool true, .bool last, .bool comp, .int .i64 out, .int .i64 size]
theorem bkZ_one : bkZ.all (·.oneCell') = true := by simp [Value.oneCell']
theorem bkA_one (last comp : Bool) (out size : Int) : (bkA last comp out size).all (·.oneCell') = true := by simp [Value.oneCell']
theorem size26 : (Tryd.prog.info? 26).map (·.size) = some 5 := by kernel_rfl

set_option maxRecDepth 100000 in
set_option maxHeartbeats 1600000 in
theorem block_lt3 (A : Option Addr) (n c : Nat) (w : World) (h3 : n < 3) :
    Calls Tryd.prog 8 #[.slice A n c] w fun e w' => e = .returned (.tuple #[.agg bkZ, .int .i64 0]) ∧ Below w.heap.size w w' := by
  have h3i : (n : Int) < 3 := by omega
  have hR : Hid ((w.alloc (.cells bkZ 26 (0, 0))).heap[w.heap.size]? = some (.cells bkZ 26 (0, 0))) := Lib.hid (heap_alloc_new _ _)
  have hba : Below w.heap.size w (w.alloc (.cells bkZ 26 (0, 0))) := (Below.refl _ w).alloc (Nat.le_refl _) _
  go_enter Tryd.func8, Tryd.ntmps8
  go_wp2_with (refine wpList_store_all (by rfl) 26 (.tmp 2) (.tmp 9) (by rfl) w.heap.size bkZ (by rfl) (by rfl) 26 bkZ hR size26 rfl bkZ_one w.heap.size (Nat.le_refl _) ?_; intro w9 HR9 hb9 HO9)
  exact bodyPost_ret (results_cell_tmp_row rfl _ w9 w.heap.size 26 _ (0, 0) _ rfl HR9.out Tryd.underlying26 rfl size26) rfl ⟨rfl, hba.trans hb9⟩

set_option maxRecDepth 100000 in
set_option maxHeartbeats 1600000 in
theorem block_raw (A : Option Addr) (n c : Nat) (l : List UInt8) (w : World) (hs : Sl w w.heap.size A n c l) (h3 : 3 ≤ l.length) (H : Nat) (hH : Lib.leNat (l.take 3) = H) (x : Int) (hx : bits .and .i64 (H : Int) 1 = x) (ht : bits .and .i64 ((H : Int) / 2) 3 = 0) :
    Calls Tryd.prog 8 #[.slice A n c] w fun e w' => e = .returned (.tuple #[.agg (bkA (x == 1) false ((H : Int) / 8) ((H : Int) / 8)), .int .i64 0]) ∧ Below w.heap.size w w' := by
  obtain rfl := hs.len
  obtain ⟨g, o, rfl, hgB, hcell⟩ := hs.at_ (by omega)
  have hm := hs.most
  have hcc := hs.cap
  have h3i : decide ((l.length : Int) < 3) = false := by simp; omega
  have h3j : (3 : Int) ≤ (c : Int) := by omega
  have hcut : Sl w w.heap.size (some ⟨g, o, none⟩) 3 c (l.take 3) := hs.first 3 (by omega)
  have hHb := leNat_lt (l.take 3)
  have hHl : (l.take 3).length = 3 := by simp; omega
  rw [hHl, hH] at hHb
  have HH := Lib.hid hH
  have hHi : (H : Int) < 16777216 := by omega
  clear hH hHl hcell
  go_enter Tryd.func8, Tryd.ntmps8
  go_wp2_with fail
  obtain ⟨wa, hwa⟩ : ∃ wa, w.alloc (.cells bkZ 26 (0, 0)) = wa := ⟨_, rfl⟩
  obtain ⟨B, hB⟩ : ∃ B, w.heap.size = B := ⟨_, rfl⟩
  have hba : Below B w wa := by rw [← hwa, ← hB]; exact (Below.refl _ w).alloc (Nat.le_refl _) _
  have hsz : wa.heap.size = B + 1 := by rw [← hwa, ← hB]; exact Array.size_push ..
  have HR : Hid (wa.heap[B]? = some (.cells bkZ 26 (0, 0))) := Lib.hid (by rw [← hwa, ← hB]; exact heap_alloc_new _ _)
  rw [hB] at hcut
  have K := zWord_any _ _ _ _ wa ((hcut.below hba).more (by omega)) (by omega)
  rw [HH.out] at K
  rw [hB, hwa]
  have HBS := Lib.hid hB
  have HSZ := Lib.hid hsz
  clear hwa hB hsz hs hgB
  refine K.mono ?_
  rintro e w' ⟨rfl, rfl⟩
  clear K
  go_upto_region 5 with fail
  obtain ⟨wb, hwb⟩ : ∃ wb, wa.alloc (.cells (bkA (x == 1) false 0 ((H : Int) / 8)) 26 (0, 0)) = wb := ⟨_, rfl⟩
  have HK : Hid (wb.heap[B + 1]? = some (.cells (bkA (x == 1) false 0 ((H : Int) / 8)) 26 (0, 0))) := Lib.hid (by rw [← hwb, ← HSZ.out]; exact heap_alloc_new _ _)
  have HRb : Hid (wb.heap[B]? = some (.cells bkZ 26 (0, 0))) := Lib.hid (by rw [← hwb]; exact (Below.heap_alloc wa _ B (by rw [HSZ.out]; omega)).trans HR.out)
  have hbb : Below B w wb := by rw [← hwb]; exact hba.alloc (by rw [HSZ.out]; omega) _
  rw [hwb, HSZ.out]
  clear hwb HR HSZ hba
  have e2 : wb.cell? ⟨B + 1, 2, none⟩ = some (.bool false) := cell_of_row wb (B + 1) 2 _ 26 (0, 0) HK.out
  have e3 : wb.cell? ⟨B + 1, 3, none⟩ = some (.int .i64 0) := cell_of_row wb (B + 1) 3 _ 26 (0, 0) HK.out
  have e4 : wb.cell? ⟨B + 1, 4, none⟩ = some (.int .i64 ((H : Int) / 8)) := cell_of_row wb (B + 1) 4 _ 26 (0, 0) HK.out
  have f2 : wb.frozen? ⟨B + 1, 2, none⟩ = false := frozen_of_row wb (B + 1) 2 _ 26 HK.out
  have f3 : wb.frozen? ⟨B + 1, 3, none⟩ = false := frozen_of_row wb (B + 1) 3 _ 26 HK.out
  go_upto_region 11 with fail
  obtain ⟨w5, hw5⟩ : ∃ w5, wb.setCell ⟨B + 1, 3, none⟩ (.int .i64 ((H : Int) / 8)) = w5 := ⟨_, rfl⟩
  have HH5 : Hid (w5.heap[B + 1]? = some (.cells (bkA (x == 1) false ((H : Int) / 8) ((H : Int) / 8)) 26 (0, 0))) := Lib.hid (by
    rw [← hw5]
    simp [World.setCell, Array.getElem?_modify, HK.out])
  have HR5 : Hid (w5.heap[B]? = some (.cells bkZ 26 (0, 0))) := Lib.hid (by
    rw [← hw5]
    simp [World.setCell, Array.getElem?_modify, HRb.out])
  have hb5 : Below B w w5 := by
    rw [← hw5]
    exact hbb.setCell (p := ⟨B + 1, 3, none⟩) (Nat.le_succ B) _
  rw [hw5]
  clear hw5
  go_wp2_with (first
    | (refine wpList_load_row (by rfl) 26 (.tmp 5) (by rfl) (B + 1) (by rfl) 26 (bkA (x == 1) false ((H : Int) / 8) ((H : Int) / 8)) (0, 0) _ HH5.out Tryd.underlying26 rfl size26 ?_)
    | (refine wpList_store_all (by rfl) 26 (.tmp 2) (.tmp 32) (by rfl) B (bkA (x == 1) false ((H : Int) / 8) ((H : Int) / 8)) (by rfl) (by rfl) 26 bkZ HR5 size26 rfl (bkA_one ..) B (Nat.le_refl _) ?_; intro w9 HR9 hb9 HO9))
  obtain rfl := HBS.out
  exact bodyPost_ret (results_cell_tmp_row rfl _ w9 w.heap.size 26 _ (0, 0) _ rfl HR9.out Tryd.underlying26 rfl size26) rfl ⟨rfl, hb5.trans hb9⟩

set_option maxRecDepth 100000 in
set_option maxHeartbeats 1600000 in
theorem block_comp (A : Option Addr) (n c : Nat) (l : List UInt8) (w : World) (hs : Sl w w.heap.size A n c l) (h3 : 3 ≤ l.length) (H : Nat) (hH : Lib.leNat (l.take 3) = H) (x : Int) (hx : bits .and .i64 (H : Int) 1 = x) (ht : bits .and .i64 ((H : Int) / 2) 3 = 2) :
    Calls Tryd.prog 8 #[.slice A n c] w fun e w' => e = .returned (.tuple #[.agg (bkA (x == 1) true 0 ((H : Int) / 8)), .int .i64 0]) ∧ Below w.heap.size w w' := by
  obtain rfl := hs.len
  obtain ⟨g, o, rfl, hgB, hcell⟩ := hs.at_ (by omega)
  have hm := hs.most
  have hcc := hs.cap
  have h3i : decide ((l.length : Int) < 3) = false := by simp; omega
  have h3j : (3 : Int) ≤ (c : Int) := by omega
  have hcut : Sl w w.heap.size (some ⟨g, o, none⟩) 3 c (l.take 3) := hs.first 3 (by omega)
  have hHb := leNat_lt (l.take 3)
  have hHl : (l.take 3).length = 3 := by simp; omega
  rw [hHl, hH] at hHb
  have HH := Lib.hid hH
  have hHi : (H : Int) < 16777216 := by omega
  clear hH hHl hcell
  go_enter Tryd.func8, Tryd.ntmps8
  go_wp2_with fail
  obtain ⟨wa, hwa⟩ : ∃ wa, w.alloc (.cells bkZ 26 (0, 0)) = wa := ⟨_, rfl⟩
  obtain ⟨B, hB⟩ : ∃ B, w.heap.size = B := ⟨_, rfl⟩
  have hba : Below B w wa := by rw [← hwa, ← hB]; exact (Below.refl _ w).alloc (Nat.le_refl _) _
  have hsz : wa.heap.size = B + 1 := by rw [← hwa, ← hB]; exact Array.size_push ..
  have HR : Hid (wa.heap[B]? = some (.cells bkZ 26 (0, 0))) := Lib.hid (by rw [← hwa, ← hB]; exact heap_alloc_new _ _)
  rw [hB] at hcut
  have K := zWord_any _ _ _ _ wa ((hcut.below hba).more (by omega)) (by omega)
  rw [HH.out] at K
  rw [hB, hwa]
  have HBS := Lib.hid hB
  have HSZ := Lib.hid hsz
  clear hwa hB hsz hs hgB
  refine K.mono ?_
  rintro e w' ⟨rfl, rfl⟩
  clear K
  go_upto_region 5 with fail
  obtain ⟨wb, hwb⟩ : ∃ wb, wa.alloc (.cells (bkA (x == 1) false 0 ((H : Int) / 8)) 26 (0, 0)) = wb := ⟨_, rfl⟩
  have HK : Hid (wb.heap[B + 1]? = some (.cells (bkA (x == 1) false 0 ((H : Int) / 8)) 26 (0, 0))) := Lib.hid (by rw [← hwb, ← HSZ.out]; exact heap_alloc_new _ _)
  have HRb : Hid (wb.heap[B]? = some (.cells bkZ 26 (0, 0))) := Lib.hid (by rw [← hwb]; exact (Below.heap_alloc wa _ B (by rw [HSZ.out]; omega)).trans HR.out)
  have hbb : Below B w wb := by rw [← hwb]; exact hba.alloc (by rw [HSZ.out]; omega) _
  rw [hwb, HSZ.out]
  clear hwb HR HSZ hba
  have e2 : wb.cell? ⟨B + 1, 2, none⟩ = some (.bool false) := cell_of_row wb (B + 1) 2 _ 26 (0, 0) HK.out
  have e3 : wb.cell? ⟨B + 1, 3, none⟩ = some (.int .i64 0) := cell_of_row wb (B + 1) 3 _ 26 (0, 0) HK.out
  have e4 : wb.cell? ⟨B + 1, 4, none⟩ = some (.int .i64 ((H : Int) / 8)) := cell_of_row wb (B + 1) 4 _ 26 (0, 0) HK.out
  have f2 : wb.frozen? ⟨B + 1, 2, none⟩ = false := frozen_of_row wb (B + 1) 2 _ 26 HK.out
  have f3 : wb.frozen? ⟨B + 1, 3, none⟩ = false := frozen_of_row wb (B + 1) 3 _ 26 HK.out
  go_upto_region 11 with fail
  obtain ⟨w5, hw5⟩ : ∃ w5, wb.setCell ⟨B + 1, 2, none⟩ (.bool true) = w5 := ⟨_, rfl⟩
  have HH5 : Hid (w5.heap[B + 1]? = some (.cells (bkA (x == 1) true 0 ((H : Int) / 8)) 26 (0, 0))) := Lib.hid (by
    rw [← hw5]
    simp [World.setCell, Array.getElem?_modify, HK.out])
  have HR5 : Hid (w5.heap[B]? = some (.cells bkZ 26 (0, 0))) := Lib.hid (by
    rw [← hw5]
    simp [World.setCell, Array.getElem?_modify, HRb.out])
  have hb5 : Below B w w5 := by
    rw [← hw5]
    exact hbb.setCell (p := ⟨B + 1, 2, none⟩) (Nat.le_succ B) _
  rw [hw5]
  clear hw5
  go_wp2_with (first
    | (refine wpList_load_row (by rfl) 26 (.tmp 5) (by rfl) (B + 1) (by rfl) 26 (bkA (x == 1) true 0 ((H : Int) / 8)) (0, 0) _ HH5.out Tryd.underlying26 rfl size26 ?_)
    | (refine wpList_store_all (by rfl) 26 (.tmp 2) (.tmp 32) (by rfl) B (bkA (x == 1) true 0 ((H : Int) / 8)) (by rfl) (by rfl) 26 bkZ HR5 size26 rfl (bkA_one ..) B (Nat.le_refl _) ?_; intro w9 HR9 hb9 HO9))
  obtain rfl := HBS.out
  exact bodyPost_ret (results_cell_tmp_row rfl _ w9 w.heap.size 26 _ (0, 0) _ rfl HR9.out Tryd.underlying26 rfl size26) rfl ⟨rfl, hb5.trans hb9⟩

set_option maxRecDepth 100000 in
set_option maxHeartbeats 1600000 in
theorem block_open (A : Option Addr) (n c : Nat) (l : List UInt8) (w : World) (hs : Sl w w.heap.size A n c l) (h3 : 3 ≤ l.length) (H : Nat) (hH : Lib.leNat (l.take 3) = H) (x : Int) (hx : bits .and .i64 (H : Int) 1 = x) (t : Int) (ht : bits .and .i64 ((H : Int) / 2) 3 = t) (ht0 : ¬ t = 0) (ht2 : ¬ t = 2) :
    Calls Tryd.prog 8 #[.slice A n c] w fun e w' => e = .returned (.tuple #[.agg bkZ, .int .i64 2]) ∧ Below w.heap.size w w' := by
  obtain rfl := hs.len
  obtain ⟨g, o, rfl, hgB, hcell⟩ := hs.at_ (by omega)
  have hm := hs.most
  have hcc := hs.cap
  have h3i : decide ((l.length : Int) < 3) = false := by simp; omega
  have h3j : (3 : Int) ≤ (c : Int) := by omega
  have hcut : Sl w w.heap.size (some ⟨g, o, none⟩) 3 c (l.take 3) := hs.first 3 (by omega)
  have hHb := leNat_lt (l.take 3)
  have hHl : (l.take 3).length = 3 := by simp; omega
  rw [hHl, hH] at hHb
  have HH := Lib.hid hH
  have hHi : (H : Int) < 16777216 := by omega
  clear hH hHl hcell
  go_enter Tryd.func8, Tryd.ntmps8
  go_wp2_with fail
  obtain ⟨wa, hwa⟩ : ∃ wa, w.alloc (.cells bkZ 26 (0, 0)) = wa := ⟨_, rfl⟩
  obtain ⟨B, hB⟩ : ∃ B, w.heap.size = B := ⟨_, rfl⟩
  have hba : Below B w wa := by rw [← hwa, ← hB]; exact (Below.refl _ w).alloc (Nat.le_refl _) _
  have hsz : wa.heap.size = B + 1 := by rw [← hwa, ← hB]; exact Array.size_push ..
  have HR : Hid (wa.heap[B]? = some (.cells bkZ 26 (0, 0))) := Lib.hid (by rw [← hwa, ← hB]; exact heap_alloc_new _ _)
  rw [hB] at hcut
  have K := zWord_any _ _ _ _ wa ((hcut.below hba).more (by omega)) (by omega)
  rw [HH.out] at K
  rw [hB, hwa]
  have HBS := Lib.hid hB
  have HSZ := Lib.hid hsz
  clear hwa hB hsz hs hgB
  refine K.mono ?_
  rintro e w' ⟨rfl, rfl⟩
  clear K
  go_upto_region 5 with fail
  obtain ⟨wb, hwb⟩ : ∃ wb, wa.alloc (.cells (bkA (x == 1) false 0 ((H : Int) / 8)) 26 (0, 0)) = wb := ⟨_, rfl⟩
  have HK : Hid (wb.heap[B + 1]? = some (.cells (bkA (x == 1) false 0 ((H : Int) / 8)) 26 (0, 0))) := Lib.hid (by rw [← hwb, ← HSZ.out]; exact heap_alloc_new _ _)
  have HRb : Hid (wb.heap[B]? = some (.cells bkZ 26 (0, 0))) := Lib.hid (by rw [← hwb]; exact (Below.heap_alloc wa _ B (by rw [HSZ.out]; omega)).trans HR.out)
  have hbb : Below B w wb := by rw [← hwb]; exact hba.alloc (by rw [HSZ.out]; omega) _
  rw [hwb, HSZ.out]
  clear hwb HR HSZ hba
  have e2 : wb.cell? ⟨B + 1, 2, none⟩ = some (.bool false) := cell_of_row wb (B + 1) 2 _ 26 (0, 0) HK.out
  have e3 : wb.cell? ⟨B + 1, 3, none⟩ = some (.int .i64 0) := cell_of_row wb (B + 1) 3 _ 26 (0, 0) HK.out
  have e4 : wb.cell? ⟨B + 1, 4, none⟩ = some (.int .i64 ((H : Int) / 8)) := cell_of_row wb (B + 1) 4 _ 26 (0, 0) HK.out
  have f2 : wb.frozen? ⟨B + 1, 2, none⟩ = false := frozen_of_row wb (B + 1) 2 _ 26 HK.out
  have f3 : wb.frozen? ⟨B + 1, 3, none⟩ = false := frozen_of_row wb (B + 1) 3 _ 26 HK.out
  have h0 : (t == 0) = false := by simpa using ht0
  have h2 : (t == 2) = false := by simpa using ht2
  clear ht0 ht2
  go_wp2_with (refine wpList_store_all (by rfl) 26 (.tmp 2) (.tmp 23) (by rfl) B bkZ (by rfl) (by rfl) 26 bkZ HRb size26 rfl bkZ_one B (Nat.le_refl _) ?_; intro w9 HR9 hb9 HO9)
  obtain rfl := HBS.out
  exact bodyPost_ret (results_cell_tmp_row rfl _ w9 w.heap.size 26 _ (0, 0) _ rfl HR9.out Tryd.underlying26 rfl size26) rfl ⟨rfl, hbb.trans hb9⟩

end Go.Proofs.YtiobfiepapflaaaDoor
