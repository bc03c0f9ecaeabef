/-
  spec.TellHeader at a header to be skipped. Conditions: those of each.
-/
import Derived.Test.YtiobfiepapflaaaDoorSkip
namespace Go.Proofs.YtiobfiepapflaaaDoor
open Go.RowKit

set_option maxRecDepth 100000 in
set_option maxHeartbeats 1600000 in
theorem tell_skip_short (A : Option Addr) (n c : Nat) (l : List UInt8) (w : World) (hs : Sl w w.heap.size A n c l) (h4 : 4 ≤ l.length) (M : Nat) (hM : Lib.leNat (l.take 4) = M) (hA : (bits .andNot .u32 (M : Int) 15 == 407710288) = true) (h8 : l.length < 8) :
    Calls Tryd.prog 6 #[.slice A n c] w fun e w' => e = .returned (.tuple #[.agg hdZ, .int .i64 1]) ∧ Below w.heap.size w w' := by
  obtain rfl := hs.len
  obtain ⟨g, o, rfl, hgB, hcell⟩ := hs.at_ (by omega)
  have hm := hs.most
  have hcc := hs.cap
  have h4i : (4 : Int) ≤ (l.length : Int) := by omega
  have hcut : Sl w w.heap.size (some ⟨g, o, none⟩) 4 c (l.take 4) := hs.first 4 (by omega)
  have HM := Lib.hid hM
  have HCELL := Lib.hid hcell
  have hMb := leNat_lt (l.take 4)
  have hMl : (l.take 4).length = 4 := by simp; omega
  rw [hMl, hM] at hMb
  clear hM hcell hMl
  have hsw := hs
  go_enter Tryd.func6, Tryd.ntmps6
  go_wp2_with fail
  obtain ⟨wa, hwa⟩ : ∃ wa, w.alloc (.cells hdZ 28 (0, 0)) = wa := ⟨_, rfl⟩
  obtain ⟨B, hB⟩ : ∃ B, w.heap.size = B := ⟨_, rfl⟩
  have hba : Below B w wa := by rw [← hwa, ← hB]; exact (Below.refl _ w).alloc (Nat.le_refl _) _
  have hsz : wa.heap.size = B + 1 := by rw [← hwa, ← hB]; exact Array.size_push ..
  have HR : Hid (wa.heap[B]? = some (.cells hdZ 28 (0, 0))) := Lib.hid (by rw [← hwa, ← hB]; exact heap_alloc_new _ _)
  rw [hB] at hcut hs hgB
  have hsw' : Sl wa wa.heap.size (some ⟨g, o, none⟩) l.length c l := (hs.below hba).more (by omega)
  have KK := skip_lt8 (some ⟨g, o, none⟩) l.length c wa (by omega)
  have KK := Lib.hid KK
  have K := zWord_any _ _ _ _ wa ((hcut.below hba).more (by omega)) (by omega)
  rw [HM.out] at K
  rw [hB, hwa]
  have HBS := Lib.hid hB
  have HSZ := Lib.hid hsz
  clear hwa hB hsz
  refine K.mono ?_
  rintro e w' ⟨rfl, rfl⟩
  clear K
  have hMw : IntKind.u32.wrap (M : Int) = (M : Int) := wraps_u32 _ (by omega) (by omega)
  clear hMb
  go_wp2_with fail
  refine KK.out.mono ?_
  rintro e w7 ⟨rfl, hb7⟩
  have HR7 : Hid (w7.heap[B]? = some (.cells hdZ 28 (0, 0))) := Lib.hid ((hb7.block B (by have := HSZ.out; omega)).trans HR.out)
  have hb7' : Below B w w7 := hba.trans (hb7.mono (by have := HSZ.out; omega))
  go_wp2_with (refine wpList_store_all (by rfl) 28 (.tmp 2) (.tmp 26) (by rfl) B hdZ (by rfl) (by rfl) 28 hdZ HR7 size28 rfl (hdA_one ..) B (Nat.le_refl _) ?_; intro w9 HR9 hb9 HO9)
  obtain rfl := HBS.out
  exact bodyPost_ret (results_cell_tmp_row rfl _ w9 w.heap.size 28 _ (0, 0) _ rfl HR9.out Tryd.underlying28 rfl size28) rfl ⟨rfl, hb7'.trans hb9⟩

set_option maxRecDepth 100000 in
set_option maxHeartbeats 1600000 in
theorem tell_skip (A : Option Addr) (n c : Nat) (l : List UInt8) (w : World) (hs : Sl w w.heap.size A n c l) (h4 : 4 ≤ l.length) (M : Nat) (hM : Lib.leNat (l.take 4) = M) (hA : (bits .andNot .u32 (M : Int) 15 == 407710288) = true) (h8 : 8 ≤ l.length) (x : Int) (hx : bits .and .u8 ((l[0].toNat : Nat) : Int) 15 = x) (hx0 : 0 ≤ x) (hx1 : x ≤ 255) :
    Calls Tryd.prog 6 #[.slice A n c] w fun e w' => e = .returned (.tuple #[.agg (hdS x (Lib.leNat ((l.drop 4).take 4))), .int .i64 0]) ∧ Below w.heap.size w w' := by
  obtain rfl := hs.len
  obtain ⟨g, o, rfl, hgB, hcell⟩ := hs.at_ (by omega)
  have hm := hs.most
  have hcc := hs.cap
  have h4i : (4 : Int) ≤ (l.length : Int) := by omega
  have hcut : Sl w w.heap.size (some ⟨g, o, none⟩) 4 c (l.take 4) := hs.first 4 (by omega)
  have HM := Lib.hid hM
  have HCELL := Lib.hid hcell
  have hMb := leNat_lt (l.take 4)
  have hMl : (l.take 4).length = 4 := by simp; omega
  rw [hMl, hM] at hMb
  clear hM hcell hMl
  have hsw := hs
  go_enter Tryd.func6, Tryd.ntmps6
  go_wp2_with fail
  obtain ⟨wa, hwa⟩ : ∃ wa, w.alloc (.cells hdZ 28 (0, 0)) = wa := ⟨_, rfl⟩
  obtain ⟨B, hB⟩ : ∃ B, w.heap.size = B := ⟨_, rfl⟩
  have hba : Below B w wa := by rw [← hwa, ← hB]; exact (Below.refl _ w).alloc (Nat.le_refl _) _
  have hsz : wa.heap.size = B + 1 := by rw [← hwa, ← hB]; exact Array.size_push ..
  have HR : Hid (wa.heap[B]? = some (.cells hdZ 28 (0, 0))) := Lib.hid (by rw [← hwa, ← hB]; exact heap_alloc_new _ _)
  rw [hB] at hcut hs hgB
  have hsw' : Sl wa wa.heap.size (some ⟨g, o, none⟩) l.length c l := (hs.below hba).more (by omega)
  have KK := skip_good (some ⟨g, o, none⟩) l.length c l wa hsw' h8 x hx hx0 hx1
  have KK := Lib.hid KK
  have K := zWord_any _ _ _ _ wa ((hcut.below hba).more (by omega)) (by omega)
  rw [HM.out] at K
  rw [hB, hwa]
  have HBS := Lib.hid hB
  have HSZ := Lib.hid hsz
  clear hwa hB hsz
  refine K.mono ?_
  rintro e w' ⟨rfl, rfl⟩
  clear K
  have hMw : IntKind.u32.wrap (M : Int) = (M : Int) := wraps_u32 _ (by omega) (by omega)
  clear hMb
  go_wp2_with fail
  refine KK.out.mono ?_
  rintro e w7 ⟨rfl, hb7⟩
  have HR7 : Hid (w7.heap[B]? = some (.cells hdZ 28 (0, 0))) := Lib.hid ((hb7.block B (by have := HSZ.out; omega)).trans HR.out)
  have hb7' : Below B w w7 := hba.trans (hb7.mono (by have := HSZ.out; omega))
  go_wp2_with (refine wpList_store_all (by rfl) 28 (.tmp 2) (.tmp 26) (by rfl) B (hdS x (Lib.leNat ((l.drop 4).take 4))) (by rfl) (by rfl) 28 hdZ HR7 size28 rfl (hdS_one ..) B (Nat.le_refl _) ?_; intro w9 HR9 hb9 HO9)
  obtain rfl := HBS.out
  exact bodyPost_ret (results_cell_tmp_row rfl _ w9 w.heap.size 28 _ (0, 0) _ rfl HR9.out Tryd.underlying28 rfl size28) rfl ⟨rfl, hb7'.trans hb9⟩

end Go.Proofs.YtiobfiepapflaaaDoor
