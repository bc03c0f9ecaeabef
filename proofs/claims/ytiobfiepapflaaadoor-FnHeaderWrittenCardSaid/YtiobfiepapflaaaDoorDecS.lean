/-
  (*zstd.Header).DecodeAndStrip at a skippable frame. Conditions: those of each.
-/
import Derived.Test.YtiobfiepapflaaaDoorDec
import Derived.Test.YtiobfiepapflaaaDoorStrs
import Derived.Test.YtiobfiepapflaaaDoorHdPlain
import Derived.Test.YtiobfiepapflaaaDoorDecN
import Derived.Outline
import Derived.Deep.RegionHeld3
namespace Go.Proofs.YtiobfiepapflaaaDoor
open Go.RowKit

/-- how the call ends at a skippable frame -/
def SkipRes (w : World) (D : Nat) (l : List UInt8) (x : Int) (e : Ending) (w' : World) : Prop :=
  ∃ A c, e = .returned (.tuple #[.slice A (l.length - 8) c, .nilIface]) ∧ w'.heap[D]? = some (.cells (zhA false 0 0 false 0 true x (Lib.leNat ((l.drop 4).take 4)) 8 false false false 0 0 false) 46 (0, 0)) ∧ Below D w w'

set_option maxRecDepth 100000 in
set_option maxHeartbeats 3200000 in
theorem dec_skip (D : Nat) (A : Option Addr) (n c : Nat) (l : List UInt8) (w : World) (old : Array Value) (hold : old.size = 15) (hd : w.heap[D]? = some (.cells old 46 (0, 0))) (hs : Sl w D A n c l) (h4 : 4 ≤ n) (hM : Lib.leNat (l.take 4) ≠ 4247762216)
    (hN : ((l.take 4).drop 1 == [42, 77, 24]) = true) (b : Nat) (hb : (l[0]'(by have := hs.len; omega)).toNat = b) (hP : (bits .and .u8 (b : Int) 240 == 80) = true) (h8 : 8 ≤ n) (x : Int) (hx : bits .and .u8 (b : Int) 15 = x) (hx0 : 0 ≤ x) (hx1 : x ≤ 255) :
    Calls Tryd.prog 15 #[.pointer (some ⟨D, 0, none⟩), .slice A n c] w fun e w' => SkipRes w D l x e w' := by
  have hl := hs.len
  have hm := hs.most
  have hcc := hs.cap
  have hni : decide ((n : Int) < 4) = false := by simp; omega
  have hnj : (4 : Int) ≤ (n : Int) := by omega
  have h4c : (4 : Int) ≤ (c : Int) := by omega
  obtain ⟨g, o, rfl, hgD, hcell⟩ := hs.at_ (by omega)
  have HS4 := Lib.hid (hs.next 4 (by omega))
  obtain ⟨A4, hA4⟩ : ∃ A4, (if c = 4 then some (⟨g, o, none⟩ : Addr) else some ⟨g, o + 4, none⟩) = A4 := ⟨_, rfl⟩
  have HD := Lib.hid hd
  have HC := Lib.hid hcell
  have HM := Lib.hid hM
  have HL := Lib.hid hl
  have HN := Lib.hid hN
  have HP := Lib.hid hP
  have HB := Lib.hid hb
  have HBL : Hid (b < 256) := Lib.hid (by rw [← hb]; exact UInt8.toNat_lt _)
  clear hd hcell hM hl hN hP hb
  go_enter Tryd.func15, Tryd.ntmps15
  go_wp2_with (refine wpList_store_all (by rfl) 46 (.tmp 23) (.tmp 22) (by rfl) D zhZ (by rfl) (by rfl) 46 old HD size46 hold (zhA_one ..) D (Nat.le_refl _) ?_; intro w2 HD2 hb2 HO2; have k8 := cell_of_row w2 D 8 _ 46 (0, 0) HD2.out; have f8 := frozen_of_row w2 D 8 _ 46 HD2.out)
  go_quiet (fail)
  have HD3 := row_drewN (n := nq) (row_setN (i := 8) (v := .int .i64 4) HD2)
  have hb3 := below_drewN (below_setN (i := 8) hb2 (.int .i64 4)) nq
  obtain ⟨w3, hw3⟩ : ∃ w3, (w2.setCell ⟨D, 8, none⟩ (.int .i64 4)).drewN nq = w3 := ⟨_, rfl⟩
  rw [hw3] at HD3 hb3 ⊢
  clear hw3 nq k8 f8
  obtain ⟨S4, hS4⟩ : ∃ S4, strOfNums ((l.take 4).map fun x => (x.toNat : Int)) = S4 := ⟨_, rfl⟩
  obtain ⟨S3, hS3⟩ : ∃ S3, strOfNums (((l.take 4).drop 1).map fun x => (x.toNat : Int)) = S3 := ⟨_, rfl⟩
  have hS4l : S4.toList = l.take 4 := by rw [← hS4, strOf_list]
  have hS3l : S3.toList = (l.take 4).drop 1 := by rw [← hS3, strOf_list]
  have kc := run_convert_bytes_arg (P := Tryd.prog) (w := w3) 22 5 Tryd.underlying22 Tryd.underlying5 g o 4 c ((l.take 4).map fun x => (x.toNat : Int)) (by have := HL.out; simp; omega) (fun i hi => by
    have := HL.out
    rw [(hb3.cell (p := ⟨g, o + i, none⟩) hgD).trans (HC.out i (by omega))]
    simp [List.getD_eq_getElem?_getD, List.getElem?_take_of_lt hi, show i < l.length by omega]) 9 Tryd.underlying9
  have kd := run_convert_bytes_arg (P := Tryd.prog) (w := w3) 22 5 Tryd.underlying22 Tryd.underlying5 g (o + 1) 3 (c - 1) (((l.take 4).drop 1).map fun x => (x.toNat : Int)) (by have := HL.out; simp; omega) (fun i hi => by
    have := HL.out
    rw [show o + 1 + i = o + (i + 1) by omega, (hb3.cell (p := ⟨g, o + (i + 1), none⟩) hgD).trans (HC.out (i + 1) (by omega))]
    simp [List.getD_eq_getElem?_getD, List.getElem?_take_of_lt (show i + 1 < 4 by omega), show i + 1 < l.length by omega]) 9 Tryd.underlying9
  rw [hS4] at kc
  rw [hS3] at kd
  clear hS4 hS3
  have hmb : (S4.toList == [40, 181, 47, 253]) = false := by rw [hS4l]; exact magic_not l HM.out
  have hmc : (S3.toList == [42, 77, 24]) = true := by rw [hS3l]; exact HN.out
  have hc0 := (hb3.cell (p := ⟨g, o, none⟩) hgD).trans (HC.out 0 (by have := HL.out; omega))
  have hnk : decide (((n - 4 : Nat) : Int) < 4) = false := by simp; omega
  have hnl : (4 : Int) ≤ ((n - 4 : Nat) : Int) := by omega
  have hcl : (4 : Int) ≤ ((c - 4 : Nat) : Int) := by omega
  have hP := HP.out
  have hbl := HBL.out
  have hble : (b : Int) < 256 := by omega
  rw [HB.out] at hc0
  clear hS4l hS3l
  have k8 := cell_of_row w3 D 8 _ 46 (0, 0) HD3.out
  have f8 := frozen_of_row w3 D 8 _ 46 HD3.out
  have k5 := cell_of_row w3 D 5 _ 46 (0, 0) HD3.out
  have f5 := frozen_of_row w3 D 5 _ 46 HD3.out
  have k6 := cell_of_row w3 D 6 _ 46 (0, 0) HD3.out
  have f6 := frozen_of_row w3 D 6 _ 46 HD3.out
  go_wp2_with fail
  have HD4 := row_setN (i := 6) (v := .int .i64 x) (row_setN (i := 5) (v := .bool true) (row_setN (i := 8) (v := .int .i64 8) HD3))
  have hb4 := below_setN (i := 6) (below_setN (i := 5) (below_setN (i := 8) hb3 (.int .i64 8)) (.bool true)) (.int .i64 x)
  obtain ⟨w4, hw4⟩ : ∃ w4, ((w3.setCell ⟨D, 8, none⟩ (.int .i64 8)).setCell ⟨D, 5, none⟩ (.bool true)).setCell ⟨D, 6, none⟩ (.int .i64 x) = w4 := ⟨_, rfl⟩
  rw [hw4] at HD4 hb4 ⊢
  have HD5 : Hid (w4.heap[D]? = some (.cells (zhA false 0 0 false 0 true x 0 8 false false false 0 0 false) 46 (0, 0))) := HD4
  clear hw4 k8 f8 k5 f5 k6 f6 hc0 HD3 HD4
  have hDs : D < w4.heap.size := by
    have := HD5.out
    rcases Nat.lt_or_ge D w4.heap.size with h | h
    · exact h
    · rw [Array.getElem?_eq_none h] at this; cases this
  have hs4 := HS4.out
  rw [if_neg (by omega)] at hs4
  have K := uint32_any _ _ _ _ _ w4 (hs4.below hb4) (by omega)
  refine K.mono ?_
  rintro e w8 ⟨rfl, hb8⟩
  clear K hs4
  have HD8 : Hid (w8.heap[D]? = some (.cells (zhA false 0 0 false 0 true x 0 8 false false false 0 0 false) 46 (0, 0))) := Lib.hid ((hb8.block D hDs).trans HD5.out)
  have hb9 : Below D w w8 := hb4.trans (hb8.mono (by omega))
  have f7 := frozen_of_row w8 D 7 _ 46 HD8.out
  have k7 := cell_of_row w8 D 7 _ 46 (0, 0) HD8.out
  obtain ⟨X, hX⟩ : ∃ X, Lib.leNat ((l.drop 4).take 4) = X := ⟨_, rfl⟩
  rw [hX]
  have HX := Lib.hid hX
  clear hX hb8 HD5 hb4
  obtain ⟨A8, hA8⟩ : ∃ A8, (if c - 4 = 4 then some (⟨g, o + 4, none⟩ : Addr) else some ⟨g, o + 4 + 4, none⟩) = A8 := ⟨_, rfl⟩
  go_wp2_with fail
  go_ret2
  refine ⟨A8, c - 4 - 4, by rw [HL.out] <;> rfl, ?_, below_setN hb9 _⟩
  rw [HX.out]
  exact (row_setN HD8).out

end Go.Proofs.YtiobfiepapflaaaDoor
