/-
  zstd.Header.AppendTo and impl.WriteHeader. Conditions: those of each theorem.
-/
import Derived.Test.YtiobfiepapflaaaDoorHdWr
import Derived.Test.YtiobfiepapflaaaDoorRead
import Derived.Deep.RegionHeld3
import Derived.Test.YtiobfiepapflaaaDoorQtail
namespace Go.Proofs.YtiobfiepapflaaaDoor
open Go.RowKit

def Wrote (w : World) (out : List UInt8) (en : Ending) (w' : World) : Prop := ∃ A c, en = .returned (.tuple #[.slice A out.length c, .nilIface]) ∧ Sl w' w'.heap.size A out.length c out ∧ Below w.heap.size w w'
/-- what appendTo gives -/
def Appends (zi Wi Di : Int) (s k : Bool) (out : List UInt8) : Prop := ∀ w' : World, Calls Tryd.prog 19 #[.agg (fhR zi Wi s k Di), .slice none 0 0] w' fun en w'' => ∃ A c, en = .returned (.slice A out.length c) ∧ Sl w'' w''.heap.size A out.length c out ∧ Below w'.heap.size w' w''
set_option maxRecDepth 100000 in
set_option maxHeartbeats 3200000 in
theorem appTo_frame (Dp : Nat) (zi Wi Di : Int) (s k has : Bool) (out : List UInt8) (w : World) (hR : w.heap[Dp]? = some (.cells (zhA s Wi Di has zi false 0 0 0 false false false 0 0 k) 46 (0, 0))) (sW : IntKind.u32.wrap Wi = Wi) (KA0 : Appends zi Wi Di s k out) :
    Calls Tryd.prog 16 #[.pointer (some ⟨Dp, 0, none⟩), .slice none 0 0] w (Wrote w out) := by
  have q0 : w.cell? ⟨Dp, 0, none⟩ = some (.bool s) := cell_of_row w Dp 0 _ _ (0, 0) hR
  have q1 : w.cell? ⟨Dp, 1, none⟩ = some (.int .u64 Wi) := cell_of_row w Dp 1 _ _ (0, 0) hR
  have q2 : w.cell? ⟨Dp, 2, none⟩ = some (.int .u32 Di) := cell_of_row w Dp 2 _ _ (0, 0) hR
  have q4 : w.cell? ⟨Dp, 4, none⟩ = some (.int .u64 zi) := cell_of_row w Dp 4 _ _ (0, 0) hR
  have q5 : w.cell? ⟨Dp, 5, none⟩ = some (.bool false) := cell_of_row w Dp 5 _ _ (0, 0) hR
  have q14 : w.cell? ⟨Dp, 14, none⟩ = some (.bool k) := cell_of_row w Dp 14 _ _ (0, 0) hR
  have KA := Lib.hid KA0
  clear hR KA0
  go_enter Tryd.func16, Tryd.ntmps16
  go_wp2_with fail
  go_region_held3 (fun w' => w'.cell? ⟨Dp, 0, none⟩ = some (.bool s) ∧ w'.cell? ⟨Dp, 1, none⟩ = some (.int .u64 Wi) ∧ w'.cell? ⟨Dp, 2, none⟩ = some (.int .u32 Di) ∧ w'.cell? ⟨Dp, 4, none⟩ = some (.int .u64 zi) ∧ w'.cell? ⟨Dp, 14, none⟩ = some (.bool k)) (go_keep) (fail)
  all_goals
    go_wp2_with fail
    refine (KA.out _).mono ?_
    rintro en w2 ⟨A, c, rfl, hsl, hb⟩
    have HS := Lib.hid hsl
    have hb2 : Below w.heap.size w w2 := (((Below.refl _ _).alloc (Nat.le_refl _) _).drew).trans (hb.mono (by simp))
    clear hsl hb
    go_wp2_with fail
    go_ret2
    exact ⟨A, c, rfl, HS.out, hb2⟩

set_option maxRecDepth 100000 in
set_option maxHeartbeats 3200000 in
theorem appTo_skip (Dp id size : Nat) (ii si : Int) (s has k : Bool) (Wi Di zi : Int) (w : World) (hR : w.heap[Dp]? = some (.cells (zhA s Wi Di has zi true ii si 0 false false false 0 0 k) 46 (0, 0))) (hii : ii = id) (hsi : si = size) (hid : id ≤ 15) :
    Calls Tryd.prog 16 #[.pointer (some ⟨Dp, 0, none⟩), .slice none 0 0] w (Wrote w (skOut id size)) := by
  have q5 : w.cell? ⟨Dp, 5, none⟩ = some (.bool true) := cell_of_row w Dp 5 _ _ (0, 0) hR
  have hDp := lt_of_blk hR
  obtain ⟨T, hT⟩ : ∃ T, w.heap.size = T := ⟨_, rfl⟩
  obtain ⟨wa, hwa⟩ : ∃ x, w.alloc (.cells #[.int .u8 80, .int .u8 42, .int .u8 77, .int .u8 24] 59) = x := ⟨_, rfl⟩
  have hTa : wa.heap[T]? = some (.cells #[.int .u8 80, .int .u8 42, .int .u8 77, .int .u8 24] 59 (0, 0)) := by rw [← hwa, ← hT]; exact heap_alloc_new _ _
  have hba : Below T w wa := by rw [← hwa, ← hT]; exact below_new _ _
  have hRa := (hba.block Dp (by omega)).trans hR
  have q6 : wa.cell? ⟨Dp, 6, none⟩ = some (.int .i64 ii) := cell_of_row wa Dp 6 _ _ (0, 0) hRa
  have t0 : wa.cell? ⟨T, 0, none⟩ = some (.int .u8 80) := cell_of_row wa T 0 _ _ (0, 0) hTa
  have f0 : wa.frozen? ⟨T, 0, none⟩ = false := frozen_of_row wa T 0 _ _ hTa
  have HR := Lib.hid hR
  have HTa := Lib.hid hTa
  have h16 : ∀ i : Fin 16, bits .and .i64 (i.val : Int) 15 = (i.val : Int) ∧ bits .or .u8 80 (i.val : Int) = ((UInt8.ofNat (80 + i.val)).toNat : Int) := by decide +kernel
  obtain ⟨a1, a2⟩ := h16 ⟨id, by omega⟩
  have a1' : bits .and .i64 ii 15 = ii := by rw [hii]; exact a1
  have a2' : bits .or .u8 80 ii = ((UInt8.ofNat (80 + id)).toNat : Int) := by rw [hii]; exact a2
  obtain ⟨m0, hm0⟩ : ∃ b, UInt8.ofNat (80 + id) = b := ⟨_, rfl⟩
  rw [hm0] at a2'
  have a3 : IntKind.u8.wrap ii = ii := by rw [IntKind.wrap_u8]; omega
  obtain ⟨b0, hb0⟩ : ∃ b, beB size 0 = b := ⟨_, rfl⟩
  obtain ⟨b1, hb1⟩ : ∃ b, beB size 1 = b := ⟨_, rfl⟩
  obtain ⟨b2, hb2⟩ : ∃ b, beB size 2 = b := ⟨_, rfl⟩
  obtain ⟨b3, hb3⟩ : ∃ b, beB size 3 = b := ⟨_, rfl⟩
  have e0 : IntKind.u8.wrap si = (b0.toNat : Int) := by have h := be_at size 0; rw [← hb0, ← h]; congr 1; omega
  have e1 : IntKind.u8.wrap (si / 256) = (b1.toNat : Int) := by have h := be_at size 1; rw [← hb1, ← h]; congr 1; omega
  have e2 : IntKind.u8.wrap (si / 65536) = (b2.toNat : Int) := by have h := be_at size 2; rw [← hb2, ← h]; congr 1; omega
  have e3 : IntKind.u8.wrap (si / 16777216) = (b3.toNat : Int) := by have h := be_at size 3; rw [← hb3, ← h]; congr 1; omega
  have HOUT : Hid (skOut id size = [m0, 42, 77, 24] ++ [b0, b1, b2, b3]) := Lib.hid (by unfold skOut; rw [hm0, hb0, hb1, hb2, hb3]; rfl)
  have HDp := Lib.hid hDp
  have HT := Lib.hid hT
  clear hR hRa hTa hii hsi hid h16 a1 a2 hm0 hb0 hb1 hb2 hb3
  go_enter Tryd.func16, Tryd.ntmps16
  go_wp2_with fail
  refine wp_region_quiet_tail 10 (by kernel_rfl) (by kernel_rfl) ?_
  simp only [List.take_succ_cons, List.take_zero, List.drop_succ_cons, List.drop_zero]
  repeat (go_big_quiet_step (fail))
  refine wpQuiet_nil ?_
  obtain ⟨w1, hw1⟩ : ∃ x, (wa.drewN 1).setCell ⟨T, 0, none⟩ (.int .u8 (m0.toNat : Int)) = x := ⟨_, rfl⟩
  have hT1 : w1.heap[T]? = some (.cells (Lib.byteCells [m0, 42, 77, 24]).toArray 59 (0, 0)) := by rw [← hw1]; exact heap_set_eq (w := wa.drewN 1) HTa.out
  have hb1 : Below T w w1 := by rw [← hw1]; exact (hba.trans (Below.refl T wa).drew).setCell (p := ⟨T, 0, none⟩) (Nat.le_refl T) _
  have hR1 := (hb1.block Dp (by have := HT.out; have := HDp.out; omega)).trans HR.out
  have t1 : w1.cell? ⟨T, 0, none⟩ = some (.int .u8 (m0.toNat : Int)) := cell_of_row w1 T 0 _ _ (0, 0) hT1
  have HT1s : T ≤ w1.heap.size := Nat.le_of_lt (lt_of_blk hT1)
  have HS1 : Hid (Sl w1 w1.heap.size (some ⟨T, 0, none⟩) 4 4 [m0, 42, 77, 24]) := Lib.hid ⟨rfl, Nat.le_refl _, by unfold maxLen; omega, .inr ⟨T, 0, rfl, lt_of_blk hT1, fun j hj => by
    rw [Nat.zero_add, cell_of_row w1 T j _ _ (0, 0) hT1, List.getElem?_toArray]
    unfold Lib.byteCells
    rw [List.getElem?_map, List.getElem?_eq_getElem hj]
    rfl⟩⟩
  have HB1 := Lib.hid hb1
  have HR1 := Lib.hid hR1
  clear hT1 hb1 hR1 hba
  go_wp2_with (first
    | (at_builtin; refine wpList_append_sld rfl (.tmp 24) (.tmp 25) rfl T (.slice none 0 0) [] [m0, 42, 77, 24] rfl (World.ownsRow_nil _ _ _ _) w1.heap.size (some ⟨T, 0, none⟩) 4 4 rfl HS1.out (by simp) HT1s 4 [m0, 42, 77, 24] rfl rfl ?_; intro A2 c2 w2 hap2;
       have q7 : w2.cell? ⟨Dp, 7, none⟩ = some (.int .u32 si) := cell_of_row w2 Dp 7 _ _ (0, 0) ((hap2.app.bel.block Dp (by have := HT.out; have := HDp.out; omega)).trans HR1.out);
       obtain ⟨w3, hw3⟩ : ∃ x, w2.alloc (.cells #[.int .u8 (b0.toNat : Int), .int .u8 (b1.toNat : Int), .int .u8 (b2.toNat : Int), .int .u8 (b3.toNat : Int)] 5) = x := ⟨_, rfl⟩;
       have HS3 := Lib.hid (sl_lit w2 w3 [b0, b1, b2, b3] hw3.symm (by simp));
       have HO3 : Hid (Own w3 T (.slice A2 4 c2) [m0, 42, 77, 24]) := by (rw [← hw3]; exact Lib.hid (hap2.app.own.alloc _));
       have hs3 : T ≤ w3.heap.size := by (rw [← hw3]; simp; have := hap2.app.le; omega);
       have HB3 : Hid (Below T w w3) := by (rw [← hw3]; exact Lib.hid (HB1.out.trans (hap2.app.bel.trans ((below_new _ _).mono hap2.app.le))));
       clear hap2)
    | (at_builtin; refine wpList_append_sld rfl (.tmp 31) (.tmp 43) rfl T (.slice A2 4 c2) [m0, 42, 77, 24] [b0, b1, b2, b3] rfl HO3.out w3.heap.size (some ⟨w2.heap.size, 0, none⟩) 4 4 rfl HS3.out (by simp) hs3 8 ([m0, 42, 77, 24] ++ [b0, b1, b2, b3]) rfl rfl ?_; intro A4 c4 w4 hap4))
  go_ret2
  rw [HOUT.out]
  have hbf := HB3.out.trans hap4.app.bel
  rw [← HT.out] at hbf
  exact ⟨A4, c4, rfl, hap4.app.sl, ⟨hbf.os, hbf.tape, hbf.output, hbf.size, hbf.block⟩⟩

set_option maxRecDepth 100000 in
set_option maxHeartbeats 3200000 in
theorem write_any (s : Bool) (win dict : Int) (has : Bool) (size : Int) (skip : Bool) (id ssz hs : Int) (ck ok last comp : Bool) (out inn : Int) (outB : List UInt8) (w : World)
    (K0 : ∀ (wa : World) (Dp : Nat), wa.heap[Dp]? = some (.cells (zhA s win dict has size skip id ssz 0 false false false 0 0 ck) 46 (0, 0)) → Calls Tryd.prog 16 #[.pointer (some ⟨Dp, 0, none⟩), .slice none 0 0] wa (Wrote wa outB)) :
    Calls Tryd.prog 10 #[.agg (ihA s win dict has size skip id ssz hs ck ok last comp out inn)] w fun e w' => ∃ A c, e = .returned (.tuple #[.slice A outB.length c, .bool true]) ∧ Sl w' w'.heap.size A outB.length c outB ∧ Below w.heap.size w w' := by
  have K := Lib.hid K0
  clear K0
  go_enter Tryd.func10, Tryd.ntmps10
  go_wp2_with fail
  obtain ⟨C, hC⟩ : ∃ C, w.heap.size = C := ⟨_, rfl⟩
  obtain ⟨_, hx2, _, hbel⟩ := alloc2_facts hC (.cells (ihA s win dict has size skip id ssz hs ck ok last comp out inn) 28) (.cells (zhA s win dict has size skip id ssz 0 false false false 0 0 ck) 46)
  rw [hC]
  refine (K.out _ _ hx2).mono ?_
  rintro en w2 ⟨A, c, rfl, hsl, hb⟩
  have HS := Lib.hid hsl
  have hb2 : Below C w w2 := hbel.trans (hb.mono (by simp; omega))
  clear hsl hb hx2 hbel
  go_wp2_with fail
  go_quiet (fail)
  go_wp2_with fail
  go_ret2
  rw [hC]
  exact ⟨A, c, rfl, HS.out, ⟨hb2.os, hb2.tape, hb2.output, hb2.size, hb2.block⟩⟩
end Go.Proofs.YtiobfiepapflaaaDoor
