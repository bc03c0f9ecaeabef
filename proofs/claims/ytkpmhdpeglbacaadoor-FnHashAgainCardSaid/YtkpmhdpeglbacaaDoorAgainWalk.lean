/-
  The walk of FnHashAgain: it returns true. Condition: the first prime stands where the program lays it.
-/
import Derived.Test.YtkpmhdpeglbacaaDoorWrite
import Derived.Test.YtkpmhdpeglbacaaDoorNew
import Derived.Test.YtkpmhdpeglbacaaDoorHashWalk
import Derived.Laws.StructEq
import Derived.Laws.Small
import Derived.Laws.Cover2
namespace Go.Proofs.YtkpmhdpeglbacaaDoor
open Go.RowKit

set_option maxHeartbeats 400000 in
theorem size_any (v : Value) (w : World) : Calls Tryd.prog 26 #[v] w fun e w' => e = .returned (.int .i64 8) ∧ w = w' := by
  go_enter Tryd.func26, Tryd.ntmps26
  go_wp2
  go_ret
  exact ⟨rfl, rfl⟩
set_option maxHeartbeats 400000 in
theorem blockSize_any (v : Value) (w : World) : Calls Tryd.prog 27 #[v] w fun e w' => e = .returned (.int .i64 32) ∧ w = w' := by
  go_enter Tryd.func27, Tryd.ntmps27
  go_wp2
  go_ret
  exact ⟨rfl, rfl⟩

theorem reset_dg (D : Nat) (l : List UInt8) (w : World) (hd : Dg w D l) (hD : 0 < D)
    (hp : w.cell? ⟨0, 0, none⟩ = some (.int .u64 11400714785074694791)) :
    Calls Tryd.prog 24 #[.pointer (some ⟨D, 0, none⟩)] w fun e w' => e = .returned (.tuple #[]) ∧ Dg w' D [] ∧ Below D w w' := by
  obtain ⟨mem, _, h2⟩ := hd
  exact reset_any D _ _ _ mem w h2 hD hp

theorem results_tmp_cell {P : Program} {fn : Func} {u p : Tmp} {ty : TypeId} (h : fn.results = #[.tmp u, .cell p ty]) (tmps : Array Value) (w : World) (g : Nat) (t : TypeId) (cs : Array Value) (fr : Nat × Nat) (d : TypeDesc)
    (hp : tmps.getD p undef = .pointer (some ⟨g, 0, none⟩)) (hg : w.heap[g]? = some (.cells cs t fr))
    (hu : P.underlying ty = some d) (hd : (match d with | .struct _ | .array _ _ => true | _ => false) = true) (hi : (P.info? ty).map (·.size) = some cs.size) :
    (results fn tmps).run P w = .ok (.tuple #[tmps.getD u undef, .agg cs]) w := by
  have hp' : tmps[p]?.getD undef = .pointer (some ⟨g, 0, none⟩) := by simpa using hp
  simp [results, h, hp', asAddr, run_loadVar_row w g t ty cs fr d hg hu hd hi]

set_option maxHeartbeats 1600000 in
theorem implAgain_any (A A2 : Option Addr) (n c n2 c2 : Nat) (l l2 : List UInt8) (w : World) (hs : Sl w w.heap.size A n c l) (hs2 : Sl w w.heap.size A2 n2 c2 l2) (hn : n ≤ 40000) (hn2 : n2 ≤ 40000)
    (hp : w.cell? ⟨0, 0, none⟩ = some (.int .u64 11400714785074694791)) :
    Calls Tryd.prog 11 #[.slice A n c, .slice A2 n2 c2] w fun e w' => e = .returned (.tuple #[.int .u64 (xx l2), .agg #[.int .i64 8, .int .i64 32]]) ∧ Below w.heap.size w w' := by
  have hD := prime_size hp
  obtain ⟨B, hBB⟩ : ∃ B, w.heap.size = B := ⟨_, rfl⟩
  rw [hBB] at hs hs2 hD ⊢
  have HP := Lib.hid hp
  have hlen := hs.len
  have hlen2 := hs2.len
  clear hp
  go_enter Tryd.func11, Tryd.ntmps11
  go_wp2_with fail
  obtain ⟨wa, hwa⟩ : ∃ wa, w.alloc (.cells #[.int .i64 0, .int .i64 0] 28 (0, 0)) = wa := ⟨_, rfl⟩
  have hba : Below B w wa := by rw [← hwa]; exact (Below.refl B w).alloc (by omega) _
  have hsz : wa.heap.size = B + 1 := by rw [← hwa, ← hBB]; exact Array.size_push ..
  have hR : wa.heap[B]? = some (.cells #[.int .i64 0, .int .i64 0] 28 (0, 0)) := by rw [← hwa, ← hBB]; exact heap_alloc_new _ _
  have KN := new_any wa (by omega) (prime_keep hba hD HP.out)
  rw [hwa]
  rw [hsz] at KN
  obtain ⟨D, hDD⟩ : ∃ D, B + 1 = D := ⟨_, rfl⟩
  rw [hDD] at KN
  have KN := Lib.hid KN
  have HR := Lib.hid hR
  have hBD : B < D := by omega
  have hD0 : 0 < D := by omega
  have HDD := Lib.hid hDD
  clear hwa hDD hR hsz hBB
  refine KN.out.mono ?_
  rintro e w1 ⟨rfl, hd1, hb1⟩
  go_wp2_with fail
  refine (write_any D [] l A n c w1 hd1 (((hs.below hba).more (by omega)).below hb1) (by simp) hn).mono ?_
  rintro e w2 ⟨rfl, hd2, hb2⟩
  have hb2' := hb1.trans hb2
  go_wp2_with fail
  refine (reset_dg D _ w2 hd2 hD0 (prime_keep (hba.trans (hb2'.mono (by omega))) hD HP.out)).mono ?_
  rintro e w3 ⟨rfl, hd3, hb3⟩
  have hb3' := hb2'.trans hb3
  go_wp2_with fail
  refine (write_any D [] l2 A2 n2 c2 w3 hd3 (((hs2.below hba).more (by omega)).below hb3') (by simp) hn2).mono ?_
  rintro e w4 ⟨rfl, hd4, hb4⟩
  have hb4' := hb3'.trans hb4
  go_wp2_with fail
  refine (dsum_any D _ w4 hd4 (by simp; omega)).mono ?_
  rintro e w5 ⟨rfl, hb5⟩
  have hb5' : Below B wa w5 := (hb4'.mono (by omega)).trans (hb5.mono (Nat.le_of_lt (Nat.lt_trans hBD hd4.lt)))
  have hR5 : w5.heap[B]? = some (.cells #[.int .i64 0, .int .i64 0] 28 (0, 0)) := by
    rw [hb5.block B (Nat.lt_trans hBD hd4.lt), hb4'.block B hBD]
    exact HR.out
  have e0 : w5.cell? ⟨B, 0, none⟩ = some (.int .i64 0) := cell_of_row w5 B 0 _ 28 (0, 0) hR5
  have e1 : w5.cell? ⟨B, 1, none⟩ = some (.int .i64 0) := cell_of_row w5 B 1 _ 28 (0, 0) hR5
  have e2 : w5.frozen? ⟨B, 0, none⟩ = false := by simp [World.frozen?, hR5]
  have e3 : w5.frozen? ⟨B, 1, none⟩ = false := by simp [World.frozen?, hR5]
  have HR5 := Lib.hid hR5
  clear hR5
  go_wp2_with fail
  refine (size_any _ _).mono ?_
  rintro e w' ⟨rfl, rfl⟩
  go_wp2_with fail
  refine (blockSize_any _ _).mono ?_
  rintro e w' ⟨rfl, rfl⟩
  go_wp2_with fail
  have hend : ((w5.setCell ⟨B, 0, none⟩ (.int .i64 8)).setCell ⟨B, 1, none⟩ (.int .i64 32)).heap[B]? = some (.cells #[.int .i64 8, .int .i64 32] 28 (0, 0)) := by
    have := HR5.out
    simp [World.setCell, Array.getElem?_modify, this]
  have hbe : Below B w ((w5.setCell ⟨B, 0, none⟩ (.int .i64 8)).setCell ⟨B, 1, none⟩ (.int .i64 32)) := ((hba.trans hb5').setCell (p := ⟨B, 0, none⟩) (Nat.le_refl B) _).setCell (p := ⟨B, 1, none⟩) (Nat.le_refl B) _
  generalize (w5.setCell ⟨B, 0, none⟩ (.int .i64 8)).setCell ⟨B, 1, none⟩ (.int .i64 32) = we at hend hbe ⊢
  exact bodyPost_ret (results_tmp_cell rfl _ we B 28 _ (0, 0) (.array 2 3) rfl hend (by kernel_rfl) rfl (by kernel_rfl)) rfl ⟨rfl, hbe⟩

@[go_sem] theorem eq_pair (a b c d : Int) (w : World) : (Op.equalIn 10000 28 (.agg #[.int .i64 a, .int .i64 b]) (.agg #[.int .i64 c, .int .i64 d])).run Tryd.prog w = .ok (a == c && b == d) w := by
  have u3 := Tryd.underlying3
  have a3 := Tryd.isAgg3
  have z3 := Tryd.sizeOf3
  rw [show (10000 : Nat) = 9999 + 1 from rfl, Op.equalIn]
  simp only [Sem.run_bind, run_underlying Tryd.underlying28, Result.andThen_ok]
  simp only [Std.Legacy.Range.forIn_eq_forIn_range', Std.Legacy.Range.size, Nat.sub_zero, Nat.add_sub_cancel, Nat.div_one, List.range'_succ, List.range'_zero, List.forIn_cons, List.forIn_nil]
  go_simp
  by_cases h1 : a = c <;> by_cases h2 : b = d <;> simp [h1, h2]
set_option maxHeartbeats 1600000 in
theorem hashAgainLaw_walk (A : Option Addr) (n c : Nat) (A2 : Option Addr) (n2 c2 : Nat) (l l2 : List UInt8) (w : World) (hs : Sl w w.heap.size A n c l) (hs2 : Sl w w.heap.size A2 n2 c2 l2)
    (hp : w.cell? ⟨0, 0, none⟩ = some (.int .u64 11400714785074694791)) :
    Calls Tryd.prog 5 #[.slice A n c, .slice A2 n2 c2] w fun e w' => e = .returned (.bool true) ∧ Below w.heap.size w w' := by
  have hm := hs.most
  have hcc := hs.cap
  have hm2 := hs2.most
  have hcc2 := hs2.cap
  by_cases hn : n ≤ 2147483647
  · by_cases hn2 : n2 ≤ 2147483647
    · by_cases h4 : n + n2 ≤ 40000
      · have K1 := Lib.hid (implAgain_any A A2 n c n2 c2 l l2 w hs hs2 (by omega) (by omega) hp)
        have K2 : Hid (∀ w', Below w.heap.size w w' → Calls Tryd.prog 9 #[.slice A2 n2 c2] w' fun e w'' => e = .returned (.int .u64 (xx l2)) ∧ Below w'.heap.size w' w'') :=
          Lib.hid fun w' hb => hash_any A2 n2 c2 l2 w' ((hs2.below hb).more hb.size) hn2
        clear hs hs2 hp
        go_enter Tryd.func5, Tryd.ntmps5
        go_wp2_with fail
        refine K1.out.mono ?_
        rintro e w1 ⟨rfl, hb⟩
        go_wp2_with fail
        obtain ⟨wb, hwb⟩ : ∃ wb, w1.alloc (.cells #[.int .i64 8, .int .i64 32] 28 (0, 0)) = wb := ⟨_, rfl⟩
        have hbb : Below w.heap.size w wb := by rw [← hwb]; exact hb.alloc hb.size _
        obtain ⟨g, hg⟩ : ∃ g, w1.heap.size = g := ⟨_, rfl⟩
        have hR : wb.heap[g]? = some (.cells #[.int .i64 8, .int .i64 32] 28 (0, 0)) := by rw [← hwb, ← hg]; exact heap_alloc_new _ _
        have hgl : g < wb.heap.size := by rw [← hwb, ← hg]; exact Nat.lt_of_lt_of_eq (Nat.lt_succ_self _) (Array.size_push ..).symm
        rw [hwb]
        clear hwb
        refine (K2.out _ hbb).mono ?_
        rintro e w2 ⟨rfl, hb2⟩
        have hb2' := hbb.trans (hb2.mono hbb.size)
        have hR2 := (hb2.block g hgl).trans hR
        have e0 : w2.cell? ⟨g, 0, none⟩ = some (.int .i64 8) := cell_of_row w2 g 0 _ 28 (0, 0) hR2
        have e1 : w2.cell? ⟨g, 1, none⟩ = some (.int .i64 32) := cell_of_row w2 g 1 _ 28 (0, 0) hR2
        clear hR hR2
        go_wp2_with fail
        go_ret
        exact ⟨rfl, hb2'⟩
      · clear hp
        go_enter Tryd.func5, Tryd.ntmps5
        go_wp2
        go_ret
        exact ⟨rfl, Below.refl _ _⟩
    · clear hp
      go_enter Tryd.func5, Tryd.ntmps5
      go_wp2
      go_ret
      exact ⟨rfl, Below.refl _ _⟩
  · clear hp
    go_enter Tryd.func5, Tryd.ntmps5
    go_wp2
    go_ret
    exact ⟨rfl, Below.refl _ _⟩
end Go.Proofs.YtkpmhdpeglbacaaDoor
