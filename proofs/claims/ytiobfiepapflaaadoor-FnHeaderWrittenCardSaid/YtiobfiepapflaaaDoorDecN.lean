/-
  (*zstd.Header).DecodeAndStrip at the magic number: refused, skippable, or nothing behind it. Conditions: those of each.
-/
import Derived.Test.YtiobfiepapflaaaDoorDec
import Derived.Test.YtiobfiepapflaaaDoorStrs
import Derived.Test.YtiobfiepapflaaaDoorHdPlain
import Derived.Test.YtiobfiepapflaaaDoorQtail
import Derived.Outline
import Derived.Deep.RegionHeld3
namespace Go.Proofs.YtiobfiepapflaaaDoor
open Go.RowKit

theorem row_setN {w : World} {D i : Nat} {R : Array Value} {v : Value} (h : Hid (w.heap[D]? = some (.cells R 46 (0, 0)))) : Hid ((w.setCell ⟨D, i, none⟩ v).heap[D]? = some (.cells (R.setIfInBounds i v) 46 (0, 0))) :=
  Lib.hid (by simp [World.setCell, Array.getElem?_modify, h.out])
theorem below_setN {w w' : World} {D i : Nat} (h : Below D w w') (v : Value) : Below D w (w'.setCell ⟨D, i, none⟩ v) := h.setCell (p := ⟨D, i, none⟩) (Nat.le_refl D) v
theorem below_drewN {w w' : World} {D : Nat} (h : Below D w w') (n : Nat) : Below D w (w'.drewN n) := ⟨h.os, h.tape, h.output, h.size, h.block⟩
theorem row_drewN {w : World} {D n : Nat} {R : Array Value} (h : Hid (w.heap[D]? = some (.cells R 46 (0, 0)))) : Hid ((w.drewN n).heap[D]? = some (.cells R 46 (0, 0))) := Lib.hid h.out

set_option maxRecDepth 100000 in
set_option maxHeartbeats 3200000 in
theorem dec_n4 (D : Nat) (A : Option Addr) (n c : Nat) (l : List UInt8) (w : World) (E : Value) (old : Array Value) (hold : old.size = 15) (hd : w.heap[D]? = some (.cells old 46 (0, 0))) (hs : Sl w D A n c l) (h4 : n = 4) (hM : Lib.leNat (l.take 4) = 4247762216) (hD : 1 < D) (hE : w.cell? ⟨0, 0, none⟩ = some E) :
    Calls Tryd.prog 15 #[.pointer (some ⟨D, 0, none⟩), .slice A n c] w fun e w' => e = .returned (.tuple #[.slice none 0 0, E]) ∧ Below D w w' := by
  subst h4
  have hl := hs.len
  have hm := hs.most
  have hcc := hs.cap
  have h4c : (4 : Int) ≤ (c : Int) := by omega
  obtain ⟨g, o, rfl, hgD, hcell⟩ := hs.at_ (by omega)
  obtain ⟨A4, hA4⟩ : ∃ A4, (if c = 4 then some (⟨g, o, none⟩ : Addr) else some ⟨g, o + 4, none⟩) = A4 := ⟨_, rfl⟩
  have HD := Lib.hid hd
  have HE := Lib.hid hE
  have HC := Lib.hid hcell
  have HM := Lib.hid hM
  have HL := Lib.hid hl
  clear hd hE hcell hM hl
  go_enter Tryd.func15, Tryd.ntmps15
  go_wp2_with (refine wpList_store_all (by rfl) 46 (.tmp 23) (.tmp 22) (by rfl) D zhZ (by rfl) (by rfl) 46 old HD size46 hold (zhA_one ..) D (Nat.le_refl _) ?_; intro w2 HD2 hb2 HO2; have k8 := cell_of_row w2 D 8 _ 46 (0, 0) HD2.out; have f8 := frozen_of_row w2 D 8 _ 46 HD2.out)
  go_quiet (fail)
  have HD3 := row_drewN (n := nq) (row_setN (i := 8) (v := .int .i64 4) HD2)
  have hb3 := below_drewN (below_setN (i := 8) hb2 (.int .i64 4)) nq
  obtain ⟨w3, hw3⟩ : ∃ w3, (w2.setCell ⟨D, 8, none⟩ (.int .i64 4)).drewN nq = w3 := ⟨_, rfl⟩
  rw [hw3] at HD3 hb3 ⊢
  clear hw3 nq k8 f8
  obtain ⟨S4, hS4⟩ : ∃ S4, strOfNums ((l.take 4).map fun x => (x.toNat : Int)) = S4 := ⟨_, rfl⟩
  have hS4l : S4.toList = [40, 181, 47, 253] := by rw [← hS4, strOf_list]; exact magic_list l (by have := HL.out; omega) HM.out
  have kc := run_convert_bytes_arg (P := Tryd.prog) (w := w3) 22 5 Tryd.underlying22 Tryd.underlying5 g o 4 c ((l.take 4).map fun x => (x.toNat : Int)) (by have := HL.out; simp; omega) (fun i hi => by
    have := HL.out
    rw [(hb3.cell (p := ⟨g, o + i, none⟩) hgD).trans (HC.out i (by omega))]
    simp [List.getD_eq_getElem?_getD, List.getElem?_take_of_lt hi, show i < l.length by omega]) 9 Tryd.underlying9
  rw [hS4] at kc
  clear hS4
  have hmb : (S4.toList == [40, 181, 47, 253]) = true := by rw [hS4l]; rfl
  have hE3 := (hb3.cell (p := ⟨0, 0, none⟩) (by show 0 < D; omega)).trans HE.out
  clear hS4l
  go_wp2_with fail
  go_quiet (fail)
  go_wp2_with fail
  go_ret2
  exact ⟨rfl, below_drewN hb3 _⟩

set_option maxRecDepth 100000 in
set_option maxHeartbeats 3200000 in
theorem dec_other1 (D : Nat) (A : Option Addr) (n c : Nat) (l : List UInt8) (w : World) (E2 : Value) (old : Array Value) (hold : old.size = 15) (hd : w.heap[D]? = some (.cells old 46 (0, 0))) (hs : Sl w D A n c l) (h4 : 4 ≤ n) (hM : Lib.leNat (l.take 4) ≠ 4247762216)
    (hN : ((l.take 4).drop 1 == [42, 77, 24]) = false) (hD : 1 < D) (hE2 : w.cell? ⟨1, 0, none⟩ = some E2) :
    Calls Tryd.prog 15 #[.pointer (some ⟨D, 0, none⟩), .slice A n c] w fun e w' => e = .returned (.tuple #[.slice none 0 0, E2]) ∧ Below D w w' := by
  have hl := hs.len
  have hm := hs.most
  have hcc := hs.cap
  have hni : decide ((n : Int) < 4) = false := by simp; omega
  have hnj : (4 : Int) ≤ (n : Int) := by omega
  have h4c : (4 : Int) ≤ (c : Int) := by omega
  obtain ⟨g, o, rfl, hgD, hcell⟩ := hs.at_ (by omega)
  obtain ⟨A4, hA4⟩ : ∃ A4, (if c = 4 then some (⟨g, o, none⟩ : Addr) else some ⟨g, o + 4, none⟩) = A4 := ⟨_, rfl⟩
  have HD := Lib.hid hd
  have HE := Lib.hid hE2
  have HC := Lib.hid hcell
  have HM := Lib.hid hM
  have HL := Lib.hid hl
  have HN := Lib.hid hN
  clear hd hE2 hcell hM hl hN
  go_enter Tryd.func15, Tryd.ntmps15
  go_wp2_with (refine wpList_store_all (by rfl) 46 (.tmp 23) (.tmp 22) (by rfl) D zhZ (by rfl) (by rfl) 46 old HD size46 hold (zhA_one ..) D (Nat.le_refl _) ?_; intro w2 HD2 hb2 HO2; have k8 := cell_of_row w2 D 8 _ 46 (0, 0) HD2.out; have f8 := frozen_of_row w2 D 8 _ 46 HD2.out)
  go_quiet (fail)
  have HD3 := row_drewN (n := nq) (row_setN (i := 8) (v := .int .i64 4) HD2)
  have hb3 := below_drewN (below_setN (i := 8) hb2 (.int .i64 4)) nq
  obtain ⟨w3, hw3⟩ : ∃ w3, (w2.setCell ⟨D, 8, none⟩ (.int .i64 4)).drewN nq = w3 := ⟨_, rfl⟩
  rw [hw3] at HD3 hb3 ⊢
  clear hw3 nq k8 f8
  obtain ⟨S4, hS4⟩ : ∃ S4, strOfNums ((l.take 4).map fun x => (x.toNat : Int)) = S4 := ⟨_, rfl⟩
  obtain ⟨S3, hS3⟩ : ∃ S3, strOfNums (((l.take 4).drop 1).map fun x => (x.toNat : Int)) = S3 := ⟨_, rfl⟩
  have hS4l : S4.toList = l.take 4 := by rw [← hS4, strOf_list]
  have hS3l : S3.toList = (l.take 4).drop 1 := by rw [← hS3, strOf_list]
  have kc := run_convert_bytes_arg (P := Tryd.prog) (w := w3) 22 5 Tryd.underlying22 Tryd.underlying5 g o 4 c ((l.take 4).map fun x => (x.toNat : Int)) (by have := HL.out; simp; omega) (fun i hi => by
    have := HL.out
    rw [(hb3.cell (p := ⟨g, o + i, none⟩) hgD).trans (HC.out i (by omega))]
    simp [List.getD_eq_getElem?_getD, List.getElem?_take_of_lt hi, show i < l.length by omega]) 9 Tryd.underlying9
  have kd := run_convert_bytes_arg (P := Tryd.prog) (w := w3) 22 5 Tryd.underlying22 Tryd.underlying5 g (o + 1) 3 (c - 1) (((l.take 4).drop 1).map fun x => (x.toNat : Int)) (by have := HL.out; simp; omega) (fun i hi => by
    have := HL.out
    rw [show o + 1 + i = o + (i + 1) by omega, (hb3.cell (p := ⟨g, o + (i + 1), none⟩) hgD).trans (HC.out (i + 1) (by omega))]
    simp [List.getD_eq_getElem?_getD, List.getElem?_take_of_lt (show i + 1 < 4 by omega), show i + 1 < l.length by omega]) 9 Tryd.underlying9
  rw [hS4] at kc
  rw [hS3] at kd
  clear hS4 hS3
  have hmb : (S4.toList == [40, 181, 47, 253]) = false := by rw [hS4l]; exact magic_not l HM.out
  have hmc : (S3.toList == [42, 77, 24]) = false := by rw [hS3l]; exact HN.out
  have hE3 := (hb3.cell (p := ⟨1, 0, none⟩) (by show 1 < D; omega)).trans HE.out
  clear hS4l hS3l
  go_wp2_with fail
  go_quiet (fail)
  go_wp2_with fail
  go_ret2
  exact ⟨rfl, below_drewN hb3 _⟩
set_option maxRecDepth 100000 in
set_option maxHeartbeats 3200000 in
theorem dec_other2 (D : Nat) (A : Option Addr) (n c : Nat) (l : List UInt8) (w : World) (E2 : Value) (old : Array Value) (hold : old.size = 15) (hd : w.heap[D]? = some (.cells old 46 (0, 0))) (hs : Sl w D A n c l) (h4 : 4 ≤ n) (hM : Lib.leNat (l.take 4) ≠ 4247762216)
    (hN : ((l.take 4).drop 1 == [42, 77, 24]) = true) (b : Nat) (hb : (l[0]'(by have := hs.len; omega)).toNat = b) (hP : (bits .and .u8 (b : Int) 240 == 80) = false) (hD : 1 < D) (hE2 : w.cell? ⟨1, 0, none⟩ = some E2) :
    Calls Tryd.prog 15 #[.pointer (some ⟨D, 0, none⟩), .slice A n c] w fun e w' => e = .returned (.tuple #[.slice none 0 0, E2]) ∧ Below D w w' := by
  have hl := hs.len
  have hm := hs.most
  have hcc := hs.cap
  have hni : decide ((n : Int) < 4) = false := by simp; omega
  have hnj : (4 : Int) ≤ (n : Int) := by omega
  have h4c : (4 : Int) ≤ (c : Int) := by omega
  obtain ⟨g, o, rfl, hgD, hcell⟩ := hs.at_ (by omega)
  obtain ⟨A4, hA4⟩ : ∃ A4, (if c = 4 then some (⟨g, o, none⟩ : Addr) else some ⟨g, o + 4, none⟩) = A4 := ⟨_, rfl⟩
  have HD := Lib.hid hd
  have HE := Lib.hid hE2
  have HC := Lib.hid hcell
  have HM := Lib.hid hM
  have HL := Lib.hid hl
  have HN := Lib.hid hN
  have HP := Lib.hid hP
  have HB := Lib.hid hb
  have HBL : Hid (b < 256) := Lib.hid (by rw [← hb]; exact UInt8.toNat_lt _)
  clear hd hE2 hcell hM hl hN hP hb
  go_enter Tryd.func15, Tryd.ntmps15
  go_wp2_with (refine wpList_store_all (by rfl) 46 (.tmp 23) (.tmp 22) (by rfl) D zhZ (by rfl) (by rfl) 46 old HD size46 hold (zhA_one ..) D (Nat.le_refl _) ?_; intro w2 HD2 hb2 HO2; have k8 := cell_of_row w2 D 8 _ 46 (0, 0) HD2.out; have f8 := frozen_of_row w2 D 8 _ 46 HD2.out)
  go_quiet (fail)
  have HD3 := row_drewN (n := nq) (row_setN (i := 8) (v := .int .i64 4) HD2)
  have hb3 := below_drewN (below_setN (i := 8) hb2 (.int .i64 4)) nq
  obtain ⟨w3, hw3⟩ : ∃ w3, (w2.setCell ⟨D, 8, none⟩ (.int .i64 4)).drewN nq = w3 := ⟨_, rfl⟩
  rw [hw3] at HD3 hb3 ⊢
  clear hw3 nq k8 f8
  obtain ⟨S4, hS4⟩ : ∃ S4, strOfNums ((l.take 4).map fun x => (x.toNat : Int)) = S4 := ⟨_, rfl⟩
  obtain ⟨S3, hS3⟩ : ∃ S3, strOfNums (((l.take 4).drop 1).map fun x => (x.toNat : Int)) = S3 := ⟨_, rfl⟩
  have hS4l : S4.toList = l.take 4 := by rw [← hS4, strOf_list]
  have hS3l : S3.toList = (l.take 4).drop 1 := by rw [← hS3, strOf_list]
  have kc := run_convert_bytes_arg (P := Tryd.prog) (w := w3) 22 5 Tryd.underlying22 Tryd.underlying5 g o 4 c ((l.take 4).map fun x => (x.toNat : Int)) (by have := HL.out; simp; omega) (fun i hi => by
    have := HL.out
    rw [(hb3.cell (p := ⟨g, o + i, none⟩) hgD).trans (HC.out i (by omega))]
    simp [List.getD_eq_getElem?_getD, List.getElem?_take_of_lt hi, show i < l.length by omega]) 9 Tryd.underlying9
  have kd := run_convert_bytes_arg (P := Tryd.prog) (w := w3) 22 5 Tryd.underlying22 Tryd.underlying5 g (o + 1) 3 (c - 1) (((l.take 4).drop 1).map fun x => (x.toNat : Int)) (by have := HL.out; simp; omega) (fun i hi => by
    have := HL.out
    rw [show o + 1 + i = o + (i + 1) by omega, (hb3.cell (p := ⟨g, o + (i + 1), none⟩) hgD).trans (HC.out (i + 1) (by omega))]
    simp [List.getD_eq_getElem?_getD, List.getElem?_take_of_lt (show i + 1 < 4 by omega), show i + 1 < l.length by omega]) 9 Tryd.underlying9
  rw [hS4] at kc
  rw [hS3] at kd
  clear hS4 hS3
  have hmb : (S4.toList == [40, 181, 47, 253]) = false := by rw [hS4l]; exact magic_not l HM.out
  have hmc : (S3.toList == [42, 77, 24]) = true := by rw [hS3l]; exact HN.out
  have hc0 := (hb3.cell (p := ⟨g, o, none⟩) hgD).trans (HC.out 0 (by have := HL.out; omega))
  have hP := HP.out
  have hbl := HBL.out
  have hble : (b : Int) < 256 := by omega
  rw [HB.out] at hc0
  have hE3 := (hb3.cell (p := ⟨1, 0, none⟩) (by show 1 < D; omega)).trans HE.out
  clear hS4l hS3l
  go_wp2_with fail
  go_quiet (fail)
  go_wp2_with fail
  go_ret2
  exact ⟨rfl, below_drewN hb3 _⟩

set_option maxRecDepth 100000 in
set_option maxHeartbeats 3200000 in
theorem dec_skip_short (D : Nat) (A : Option Addr) (n c : Nat) (l : List UInt8) (w : World) (E : Value) (old : Array Value) (hold : old.size = 15) (hd : w.heap[D]? = some (.cells old 46 (0, 0))) (hs : Sl w D A n c l) (h4 : 4 ≤ n) (hM : Lib.leNat (l.take 4) ≠ 4247762216)
    (hN : ((l.take 4).drop 1 == [42, 77, 24]) = true) (b : Nat) (hb : (l[0]'(by have := hs.len; omega)).toNat = b) (hP : (bits .and .u8 (b : Int) 240 == 80) = true) (h8 : n < 8) (hD : 1 < D) (hE : w.cell? ⟨0, 0, none⟩ = some E) :
    Calls Tryd.prog 15 #[.pointer (some ⟨D, 0, none⟩), .slice A n c] w fun e w' => e = .returned (.tuple #[.slice none 0 0, E]) ∧ Below D w w' := by
  have hl := hs.len
  have hm := hs.most
  have hcc := hs.cap
  have hni : decide ((n : Int) < 4) = false := by simp; omega
  have hnj : (4 : Int) ≤ (n : Int) := by omega
  have h4c : (4 : Int) ≤ (c : Int) := by omega
  obtain ⟨g, o, rfl, hgD, hcell⟩ := hs.at_ (by omega)
  obtain ⟨A4, hA4⟩ : ∃ A4, (if c = 4 then some (⟨g, o, none⟩ : Addr) else some ⟨g, o + 4, none⟩) = A4 := ⟨_, rfl⟩
  have HD := Lib.hid hd
  have HE := Lib.hid hE
  have HC := Lib.hid hcell
  have HM := Lib.hid hM
  have HL := Lib.hid hl
  have HN := Lib.hid hN
  have HP := Lib.hid hP
  have HB := Lib.hid hb
  have HBL : Hid (b < 256) := Lib.hid (by rw [← hb]; exact UInt8.toNat_lt _)
  clear hd hE hcell hM hl hN hP hb
  go_enter Tryd.func15, Tryd.ntmps15
  go_wp2_with (refine wpList_store_all (by rfl) 46 (.tmp 23) (.tmp 22) (by rfl) D zhZ (by rfl) (by rfl) 46 old HD size46 hold (zhA_one ..) D (Nat.le_refl _) ?_; intro w2 HD2 hb2 HO2; have k8 := cell_of_row w2 D 8 _ 46 (0, 0) HD2.out; have f8 := frozen_of_row w2 D 8 _ 46 HD2.out)
  go_quiet (fail)
  have HD3 := row_drewN (n := nq) (row_setN (i := 8) (v := .int .i64 4) HD2)
  have hb3 := below_drewN (below_setN (i := 8) hb2 (.int .i64 4)) nq
  obtain ⟨w3, hw3⟩ : ∃ w3, (w2.setCell ⟨D, 8, none⟩ (.int .i64 4)).drewN nq = w3 := ⟨_, rfl⟩
  rw [hw3] at HD3 hb3 ⊢
  clear hw3 nq k8 f8
  obtain ⟨S4, hS4⟩ : ∃ S4, strOfNums ((l.take 4).map fun x => (x.toNat : Int)) = S4 := ⟨_, rfl⟩
  obtain ⟨S3, hS3⟩ : ∃ S3, strOfNums (((l.take 4).drop 1).map fun x => (x.toNat : Int)) = S3 := ⟨_, rfl⟩
  have hS4l : S4.toList = l.take 4 := by rw [← hS4, strOf_list]
  have hS3l : S3.toList = (l.take 4).drop 1 := by rw [← hS3, strOf_list]
  have kc := run_convert_bytes_arg (P := Tryd.prog) (w := w3) 22 5 Tryd.underlying22 Tryd.underlying5 g o 4 c ((l.take 4).map fun x => (x.toNat : Int)) (by have := HL.out; simp; omega) (fun i hi => by
    have := HL.out
    rw [(hb3.cell (p := ⟨g, o + i, none⟩) hgD).trans (HC.out i (by omega))]
    simp [List.getD_eq_getElem?_getD, List.getElem?_take_of_lt hi, show i < l.length by omega]) 9 Tryd.underlying9
  have kd := run_convert_bytes_arg (P := Tryd.prog) (w := w3) 22 5 Tryd.underlying22 Tryd.underlying5 g (o + 1) 3 (c - 1) (((l.take 4).drop 1).map fun x => (x.toNat : Int)) (by have := HL.out; simp; omega) (fun i hi => by
    have := HL.out
    rw [show o + 1 + i = o + (i + 1) by omega, (hb3.cell (p := ⟨g, o + (i + 1), none⟩) hgD).trans (HC.out (i + 1) (by omega))]
    simp [List.getD_eq_getElem?_getD, List.getElem?_take_of_lt (show i + 1 < 4 by omega), show i + 1 < l.length by omega]) 9 Tryd.underlying9
  rw [hS4] at kc
  rw [hS3] at kd
  clear hS4 hS3
  have hmb : (S4.toList == [40, 181, 47, 253]) = false := by rw [hS4l]; exact magic_not l HM.out
  have hmc : (S3.toList == [42, 77, 24]) = true := by rw [hS3l]; exact HN.out
  have hc0 := (hb3.cell (p := ⟨g, o, none⟩) hgD).trans (HC.out 0 (by have := HL.out; omega))
  have hnk : decide (((n - 4 : Nat) : Int) < 4) = true := by simp; omega
  have hnl : ((n - 4 : Nat) : Int) < 4 := by omega
  have hP := HP.out
  have hbl := HBL.out
  have hble : (b : Int) < 256 := by omega
  rw [HB.out] at hc0
  have hE3 := (hb3.cell (p := ⟨0, 0, none⟩) (by show 0 < D; omega)).trans HE.out
  clear hS4l hS3l
  go_wp2_with fail
  go_quiet (fail)
  go_wp2_with fail
  go_ret2
  exact ⟨rfl, below_drewN hb3 _⟩

end Go.Proofs.YtiobfiepapflaaaDoor
