/-
  spec.skippable at eight bytes and more. Conditions: those of each.
-/
import Derived.Test.YtiobfiepapflaaaDoorTellB
import Derived.StillTailTactics
namespace Go.Proofs.YtiobfiepapflaaaDoor
open Go.RowKit

set_option maxRecDepth 100000 in
set_option maxHeartbeats 1600000 in
theorem skip_good (A : Option Addr) (n c : Nat) (l : List UInt8) (w : World) (hs : Sl w w.heap.size A n c l) (h8 : 8 ≤ l.length) (x : Int) (hx : bits .and .u8 ((l[0].toNat : Nat) : Int) 15 = x) (hx0 : 0 ≤ x) (hx1 : x ≤ 255) :
    Calls Tryd.prog 12 #[.slice A n c] w fun e w' => e = .returned (.tuple #[.agg (hdS x (Lib.leNat ((l.drop 4).take 4))), .int .i64 0]) ∧ Below w.heap.size w w' := by
  obtain rfl := hs.len
  obtain ⟨g, o, rfl, hgB, hcell⟩ := hs.at_ (by omega)
  have hm := hs.most
  have hcc := hs.cap
  have h8i : decide ((l.length : Int) < 8) = false := by simp; omega
  have h8j : (8 : Int) ≤ (c : Int) := by omega
  have h0i : (0 : Int) < (l.length : Int) := by omega
  have h0n : 0 < l.length := by omega
  have h48 : ¬ c = 4 := by omega
  have h8c : 8 ≤ c := by omega
  have hc0 := hcell 0 (by omega)
  simp only [Nat.add_zero] at hc0
  clear hcell
  have hcut : Sl w w.heap.size (some ⟨g, o + 4, none⟩) 4 (c - 4) ((l.drop 4).take 4) := by
    have := (hs.next 4 (by omega)).first 4 (by omega)
    rwa [if_neg (by omega)] at this
  have hMb := leNat_lt ((l.drop 4).take 4)
  have hMl : ((l.drop 4).take 4).length = 4 := by simp; omega
  rw [hMl] at hMb
  obtain ⟨M, hM⟩ : ∃ M, Lib.leNat ((l.drop 4).take 4) = M := ⟨_, rfl⟩
  rw [hM] at hMb ⊢
  have hMw : IntKind.u32.wrap (M : Int) = (M : Int) := wraps_u32 _ (by omega) (by omega)
  have hxw : IntKind.i64.wrap x = x := IntWalk.i64_in _ (by omega)
  have HM := Lib.hid hM
  clear hMb hMl hM hs
  go_enter Tryd.func12, Tryd.ntmps12
  go_wp2_with fail
  obtain ⟨wa, hwa⟩ : ∃ wa, w.alloc (.cells hdZ 28 (0, 0)) = wa := ⟨_, rfl⟩
  obtain ⟨B, hB⟩ : ∃ B, w.heap.size = B := ⟨_, rfl⟩
  have hba : Below B w wa := by rw [← hwa, ← hB]; exact (Below.refl _ w).alloc (Nat.le_refl _) _
  have hsz : wa.heap.size = B + 1 := by rw [← hwa, ← hB]; exact Array.size_push ..
  have HR : Hid (wa.heap[B]? = some (.cells hdZ 28 (0, 0))) := Lib.hid (by rw [← hwa, ← hB]; exact heap_alloc_new _ _)
  rw [hB] at hcut hgB
  have K := zWord_any _ _ _ _ wa.drew ((hcut.below hba).drew.more (by show B ≤ wa.heap.size; omega)) (by omega)
  rw [HM.out] at K
  have K := Lib.hid K
  have hca := (hba.cell (p := ⟨g, o, none⟩) hgB).trans hc0
  rw [hB, hwa]
  have HBS := Lib.hid hB
  generalize l[0].toNat = b0 at hx hca hc0
  clear hwa hB hsz hc0
  refine wp_region_still_tail 10 (by kernel_rfl) (by kernel_rfl) ?_
  simp only [List.take_succ_cons, List.take_zero, List.drop_succ_cons, List.drop_zero]
  change wpStill _ _ wa.drew _ _ _
  iterate 7 still_step
  still_call (K.out.mono fun _ _ h => ⟨h.1, h.2.symm⟩)
  repeat still_step
  refine wpStill_nil ?_
  change wpList _ _ _ _ _ wa.drew
  have HRd : Hid (wa.drew.heap[B]? = some (.cells hdZ 28 (0, 0))) := Lib.hid HR.out
  go_wp2_with (refine wpList_store_all (by rfl) 28 (.tmp 2) (.tmp 17) (by rfl) B (hdS x M) (by rfl) (by rfl) 28 hdZ HRd size28 rfl (hdS_one ..) B (Nat.le_refl _) ?_; intro w9 HR9 hb9 HO9)
  obtain rfl := HBS.out
  exact bodyPost_ret (results_cell_tmp_row rfl _ w9 w.heap.size 28 _ (0, 0) _ rfl HR9.out Tryd.underlying28 rfl size28) rfl ⟨rfl, hba.drew.trans hb9⟩
end Go.Proofs.YtiobfiepapflaaaDoor
