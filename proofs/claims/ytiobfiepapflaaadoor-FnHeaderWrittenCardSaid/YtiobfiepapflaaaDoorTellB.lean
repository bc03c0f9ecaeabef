/-
  spec.TellHeader where it refuses, or leaves the class open. Conditions: those of each.
-/
import Derived.Test.YtiobfiepapflaaaDoorTell
namespace Go.Proofs.YtiobfiepapflaaaDoor
open Go.RowKit

set_option maxRecDepth 100000 in
set_option maxHeartbeats 1600000 in
theorem tell_other (A : Option Addr) (n c : Nat) (l : List UInt8) (w : World) (hs : Sl w w.heap.size A n c l) (h4 : 4 ≤ l.length) (M : Nat) (hM : Lib.leNat (l.take 4) = M) (hA : (bits .andNot .u32 (M : Int) 15 == 407710288) = false) (hne : M ≠ 4247762216) :
    Calls Tryd.prog 6 #[.slice A n c] w fun e w' => e = .returned (.tuple #[.agg hdZ, .int .i64 1]) ∧ Below w.heap.size w w' := by
  obtain rfl := hs.len
  obtain ⟨g, o, rfl, hgB, hcell⟩ := hs.at_ (by omega)
  have hm := hs.most
  have hcc := hs.cap
  have h4i : (4 : Int) ≤ (l.length : Int) := by omega
  have hcut : Sl w w.heap.size (some ⟨g, o, none⟩) 4 c (l.take 4) := hs.first 4 (by omega)
  have HM := Lib.hid hM
  have HCELL := Lib.hid hcell
  have hMb := leNat_lt (l.take 4)
  have hMl : (l.take 4).length = 4 := by simp; omega
  rw [hMl, hM] at hMb
  clear hM hcell hMl
  go_enter Tryd.func6, Tryd.ntmps6
  go_wp2_with fail
  obtain ⟨wa, hwa⟩ : ∃ wa, w.alloc (.cells hdZ 28 (0, 0)) = wa := ⟨_, rfl⟩
  obtain ⟨B, hB⟩ : ∃ B, w.heap.size = B := ⟨_, rfl⟩
  have hba : Below B w wa := by rw [← hwa, ← hB]; exact (Below.refl _ w).alloc (Nat.le_refl _) _
  have hsz : wa.heap.size = B + 1 := by rw [← hwa, ← hB]; exact Array.size_push ..
  have HR : Hid (wa.heap[B]? = some (.cells hdZ 28 (0, 0))) := Lib.hid (by rw [← hwa, ← hB]; exact heap_alloc_new _ _)
  rw [hB] at hcut hs hgB
  have K := zWord_any _ _ _ _ wa ((hcut.below hba).more (by omega)) (by omega)
  rw [HM.out] at K
  rw [hB, hwa]
  have HBS := Lib.hid hB
  clear hwa hB hsz
  refine K.mono ?_
  rintro e w' ⟨rfl, rfl⟩
  clear K
  have hMw : IntKind.u32.wrap (M : Int) = (M : Int) := wraps_u32 _ (by omega) (by omega)
  have hne' : ((M : Int) == 4247762216) = false := by simp; omega
  have hne2 : ¬ (M : Int) = 4247762216 := by omega
  clear hMb hne
  go_wp2_with (refine wpList_store_all (by rfl) 28 (.tmp 2) (.tmp 35) (by rfl) B hdZ (by rfl) (by rfl) 28 hdZ HR size28 rfl (hdA_one ..) B (Nat.le_refl _) ?_; intro w9 HR9 hb9 HO9)
  obtain rfl := HBS.out
  exact bodyPost_ret (results_cell_tmp_row rfl _ w9 w.heap.size 28 _ (0, 0) _ rfl HR9.out Tryd.underlying28 rfl size28) rfl ⟨rfl, hba.trans hb9⟩

set_option maxRecDepth 100000 in
set_option maxHeartbeats 1600000 in
theorem tell_n4 (A : Option Addr) (n c : Nat) (l : List UInt8) (w : World) (hs : Sl w w.heap.size A n c l) (h4 : 4 ≤ l.length) (hM : Lib.leNat (l.take 4) = 4247762216) (h5 : l.length < 5) :
    Calls Tryd.prog 6 #[.slice A n c] w fun e w' => e = .returned (.tuple #[.agg hdZ, .int .i64 1]) ∧ Below w.heap.size w w' := by
  obtain rfl := hs.len
  obtain ⟨g, o, rfl, hgB, hcell⟩ := hs.at_ (by omega)
  have hm := hs.most
  have hcc := hs.cap
  have h4i : (4 : Int) ≤ (l.length : Int) := by omega
  have hcut : Sl w w.heap.size (some ⟨g, o, none⟩) 4 c (l.take 4) := hs.first 4 (by omega)
  have HM := Lib.hid hM
  have HCELL := Lib.hid hcell
  have hMb := leNat_lt (l.take 4)
  have hMl : (l.take 4).length = 4 := by simp; omega
  rw [hMl, hM] at hMb
  clear hM hcell hMl
  go_enter Tryd.func6, Tryd.ntmps6
  go_wp2_with fail
  obtain ⟨wa, hwa⟩ : ∃ wa, w.alloc (.cells hdZ 28 (0, 0)) = wa := ⟨_, rfl⟩
  obtain ⟨B, hB⟩ : ∃ B, w.heap.size = B := ⟨_, rfl⟩
  have hba : Below B w wa := by rw [← hwa, ← hB]; exact (Below.refl _ w).alloc (Nat.le_refl _) _
  have hsz : wa.heap.size = B + 1 := by rw [← hwa, ← hB]; exact Array.size_push ..
  have HR : Hid (wa.heap[B]? = some (.cells hdZ 28 (0, 0))) := Lib.hid (by rw [← hwa, ← hB]; exact heap_alloc_new _ _)
  rw [hB] at hcut hs hgB
  have K := zWord_any _ _ _ _ wa ((hcut.below hba).more (by omega)) (by omega)
  rw [HM.out] at K
  rw [hB, hwa]
  have HBS := Lib.hid hB
  clear hwa hB hsz
  refine K.mono ?_
  rintro e w' ⟨rfl, rfl⟩
  clear K
  have hA : (bits .andNot .u32 4247762216 15 == 407710288) = false := by kernel_rfl
  have h5i : (l.length : Int) < 5 := by omega
  go_wp2_with (refine wpList_store_all (by rfl) 28 (.tmp 2) (.tmp 35) (by rfl) B hdZ (by rfl) (by rfl) 28 hdZ HR size28 rfl (hdA_one ..) B (Nat.le_refl _) ?_; intro w9 HR9 hb9 HO9)
  obtain rfl := HBS.out
  exact bodyPost_ret (results_cell_tmp_row rfl _ w9 w.heap.size 28 _ (0, 0) _ rfl HR9.out Tryd.underlying28 rfl size28) rfl ⟨rfl, hba.trans hb9⟩

set_option maxRecDepth 100000 in
set_option maxHeartbeats 1600000 in
theorem tell_open (A : Option Addr) (n c : Nat) (l : List UInt8) (w : World) (hs : Sl w w.heap.size A n c l) (h5 : 5 ≤ l.length) (hM : Lib.leNat (l.take 4) = 4247762216) (h8 : (bits .and .i64 ((l[4].toNat : Nat) : Int) 8 != 0) = true) :
    Calls Tryd.prog 6 #[.slice A n c] w fun e w' => e = .returned (.tuple #[.agg hdZ, .int .i64 2]) ∧ Below w.heap.size w w' := by
  obtain rfl := hs.len
  obtain ⟨g, o, rfl, hgB, hcell⟩ := hs.at_ (by omega)
  have hm := hs.most
  have hcc := hs.cap
  have h4i : (4 : Int) ≤ (l.length : Int) := by omega
  have hcut : Sl w w.heap.size (some ⟨g, o, none⟩) 4 c (l.take 4) := hs.first 4 (by omega)
  have HM := Lib.hid hM
  have HCELL := Lib.hid hcell
  have hMb := leNat_lt (l.take 4)
  have hMl : (l.take 4).length = 4 := by simp; omega
  rw [hMl, hM] at hMb
  clear hM hcell hMl
  go_enter Tryd.func6, Tryd.ntmps6
  go_wp2_with fail
  obtain ⟨wa, hwa⟩ : ∃ wa, w.alloc (.cells hdZ 28 (0, 0)) = wa := ⟨_, rfl⟩
  obtain ⟨B, hB⟩ : ∃ B, w.heap.size = B := ⟨_, rfl⟩
  have hba : Below B w wa := by rw [← hwa, ← hB]; exact (Below.refl _ w).alloc (Nat.le_refl _) _
  have hsz : wa.heap.size = B + 1 := by rw [← hwa, ← hB]; exact Array.size_push ..
  have HR : Hid (wa.heap[B]? = some (.cells hdZ 28 (0, 0))) := Lib.hid (by rw [← hwa, ← hB]; exact heap_alloc_new _ _)
  rw [hB] at hcut hs hgB
  have K := zWord_any _ _ _ _ wa ((hcut.below hba).more (by omega)) (by omega)
  rw [HM.out] at K
  rw [hB, hwa]
  have HBS := Lib.hid hB
  clear hwa hB hsz
  refine K.mono ?_
  rintro e w' ⟨rfl, rfl⟩
  clear K
  have hA : (bits .andNot .u32 4247762216 15 == 407710288) = false := by kernel_rfl
  have h5i : decide ((l.length : Int) < 5) = false := by simp; omega
  have h4j : (4 : Int) < (l.length : Int) := by omega
  have hc4 := (hba.cell (p := ⟨g, o + 4, none⟩) hgB).trans (HCELL.out 4 (by omega))
  have hF := l[4].toNat_lt
  generalize l[4].toNat = F at hc4 hF h8
  have hFi : (F : Int) < 256 := by omega
  go_wp2_with (refine wpList_store_all (by rfl) 28 (.tmp 2) (.tmp 43) (by rfl) B hdZ (by rfl) (by rfl) 28 hdZ HR size28 rfl (hdA_one ..) B (Nat.le_refl _) ?_; intro w9 HR9 hb9 HO9)
  obtain rfl := HBS.out
  exact bodyPost_ret (results_cell_tmp_row rfl _ w9 w.heap.size 28 _ (0, 0) _ rfl HR9.out Tryd.underlying28 rfl size28) rfl ⟨rfl, hba.trans hb9⟩

set_option maxRecDepth 100000 in
set_option maxHeartbeats 1600000 in
theorem tell_lt4 (A : Option Addr) (n c : Nat) (w : World) (h4 : n < 4) :
    Calls Tryd.prog 6 #[.slice A n c] w fun e w' => e = .returned (.tuple #[.agg hdZ, .int .i64 1]) ∧ Below w.heap.size w w' := by
  have h4i : (n : Int) < 4 := by omega
  have hR : Hid ((w.alloc (.cells hdZ 28 (0, 0))).heap[w.heap.size]? = some (.cells hdZ 28 (0, 0))) := Lib.hid (heap_alloc_new _ _)
  have hba : Below w.heap.size w (w.alloc (.cells hdZ 28 (0, 0))) := (Below.refl _ w).alloc (Nat.le_refl _) _
  go_enter Tryd.func6, Tryd.ntmps6
  go_wp2_with (refine wpList_store_all (by rfl) 28 (.tmp 2) (.tmp 16) (by rfl) w.heap.size hdZ (by rfl) (by rfl) 28 hdZ hR size28 rfl (hdA_one ..) w.heap.size (Nat.le_refl _) ?_; intro w9 HR9 hb9 HO9)
  exact bodyPost_ret (results_cell_tmp_row rfl _ w9 w.heap.size 28 _ (0, 0) _ rfl HR9.out Tryd.underlying28 rfl size28) rfl ⟨rfl, hba.trans hb9⟩

/-- a header of a frame to be skipped -/
abbrev hdS (id size : Int) : Array Value := #[.bool false, .int .u64 0, .int .u32 0, .bool false, .int .u64 0, .bool true, .int .i64 id, .int .u32 size, .int .i64 8, .bool false, .bool false, .bool false, .bool false, .int .i64 0, .int .i64 0]
theorem hdS_one (id size : Int) : (hdS id size).all (·.oneCell') = true := by
  simp [Value.oneCell']
set_option maxRecDepth 100000 in
set_option maxHeartbeats 1600000 in
theorem skip_lt8 (A : Option Addr) (n c : Nat) (w : World) (h8 : n < 8) :
    Calls Tryd.prog 12 #[.slice A n c] w fun e w' => e = .returned (.tuple #[.agg hdZ, .int .i64 1]) ∧ Below w.heap.size w w' := by
  have h8i : (n : Int) < 8 := by omega
  have hR : Hid ((w.alloc (.cells hdZ 28 (0, 0))).heap[w.heap.size]? = some (.cells hdZ 28 (0, 0))) := Lib.hid (heap_alloc_new _ _)
  have hba : Below w.heap.size w (w.alloc (.cells hdZ 28 (0, 0))) := (Below.refl _ w).alloc (Nat.le_refl _) _
  go_enter Tryd.func12, Tryd.ntmps12
  go_wp2_with (refine wpList_store_all (by rfl) 28 (.tmp 2) (.tmp 7) (by rfl) w.heap.size hdZ (by rfl) (by rfl) 28 hdZ hR size28 rfl (hdA_one ..) w.heap.size (Nat.le_refl _) ?_; intro w9 HR9 hb9 HO9)
  exact bodyPost_ret (results_cell_tmp_row rfl _ w9 w.heap.size 28 _ (0, 0) _ rfl HR9.out Tryd.underlying28 rfl size28) rfl ⟨rfl, hba.trans hb9⟩
end Go.Proofs.YtiobfiepapflaaaDoor
