/-
  spec.TellHeader: what the header of a frame tells. Conditions: those of each.
-/
import Derived.Test.YtiobfiepapflaaaDoorRows
import Derived.Test.YtiobfiepapflaaaDoorWord
import Derived.Test.YtiobfiepapflaaaDoorStruct
import Derived.Deep.QuietTactic
import Derived.BigQuiet
import Derived.Deep.DeepCutAuto
import Derived.Deep.CutRange
namespace Go.Proofs.YtiobfiepapflaaaDoor
open Go.RowKit

/-- a header of which nothing is known -/
abbrev hdZ : Array Value := #[.bool false, .int .u64 0, .int .u32 0, .bool false, .int .u64 0, .bool false, .int .i64 0, .int .u32 0, .int .i64 0, .bool false, .bool false, .bool false, .bool false, .int .i64 0, .int .i64 0]
/-- a header of a frame -/
abbrev hdA (s : Bool) (win dict : Int) (has : Bool) (size hs : Int) (ck : Bool) : Array Value := #[.bool s, .int .u64 win, .int .u32 dict, .bool has, .int .u64 size, .bool false, .int .i64 0, .int .u32 0, .int .i64 hs, .bool ck, .bool false, .bool false, .bool false, .int .i64 0, .int .i64 0]
/-- the size as it is told -/
def sV (sz : Nat) (y : Int) : Int := if sz = 2 then y + 256 else y
theorem sV_two (y : Int) : sV 2 y = y + 256 := rfl
theorem sV_ne {sz : Nat} (h : ¬ sz = 2) (y : Int) : sV sz y = y := if_neg h
/-- the window as it is told -/
def winV (b : Nat) : Int := IntKind.u64.wrap (IntKind.u64.wrap (2 ^ (10 + b / 8)) + IntKind.u64.wrap (IntKind.u64.wrap ((IntKind.u64.wrap (2 ^ (10 + b / 8))).tdiv 8) * ((b : Int) % 8)))
theorem hdA_one (s : Bool) (win dict : Int) (has : Bool) (size hs : Int) (ck : Bool) : (hdA s win dict has size hs ck).all (·.oneCell') = true := by
  simp [Value.oneCell']
theorem size28 : (Tryd.prog.info? 28).map (·.size) = some 15 := by kernel_rfl

set_option maxRecDepth 100000 in
set_option maxHeartbeats 3200000 in
theorem tell_shortT (A : Option Addr) (n c : Nat) (l : List UInt8) (w : World) (hs : Sl w w.heap.size A n c l) (h5 : 5 ≤ l.length) (hM : Lib.leNat (l.take 4) = 4247762216)
    (k4 : Int) (h8 : bits .and .i64 ((l[4].toNat : Nat) : Int) 8 = 0) (h32 : bits .and .i64 ((l[4].toNat : Nat) : Int) 32 = 32) (h4 : bits .and .i64 ((l[4].toNat : Nat) : Int) 4 = k4) (d v dn sz : Nat) (h3 : bits .and .i64 ((l[4].toNat : Nat) : Int) 3 = d) (h64 : ((l[4].toNat : Nat) : Int) / 64 = v)
    (hd : d < 4) (hv : v < 4) (hdn : dn ≤ 4) (hsz8 : sz ≤ 8) (hdi : ∀ W, (Instr.index 42 (.agg #[.int .i64 0, .int .i64 1, .int .i64 2, .int .i64 4]) (.int .i64 d)).run Tryd.prog W = .ok (.int .i64 dn) W) (hvi : #[Value.int .i64 1, Value.int .i64 2, Value.int .i64 4, Value.int .i64 8][v]? = some (.int .i64 sz))
    (hlong : ¬ 5 + dn + sz ≤ l.length) :
    Calls Tryd.prog 6 #[.slice A n c] w fun e w' => e = .returned (.tuple #[.agg hdZ, .int .i64 1]) ∧ Below w.heap.size w w' := by
  obtain rfl := hs.len
  obtain ⟨g, o, rfl, hgB, hcell⟩ := hs.at_ (by omega)
  have hm := hs.most
  have hcc := hs.cap
  have h4i : (4 : Int) ≤ (l.length : Int) := by omega
  have hcut : Sl w w.heap.size (some ⟨g, o, none⟩) 4 c (l.take 4) := hs.first 4 (by omega)
  have HM := Lib.hid hM
  have HCELL := Lib.hid hcell
  clear hM hcell
  go_enter Tryd.func6, Tryd.ntmps6
  go_wp2_with fail
  obtain ⟨wa, hwa⟩ : ∃ wa, w.alloc (.cells hdZ 28 (0, 0)) = wa := ⟨_, rfl⟩
  obtain ⟨B, hB⟩ : ∃ B, w.heap.size = B := ⟨_, rfl⟩
  have hba : Below B w wa := by rw [← hwa, ← hB]; exact (Below.refl _ w).alloc (Nat.le_refl _) _
  have hsz : wa.heap.size = B + 1 := by rw [← hwa, ← hB]; exact Array.size_push ..
  have HR : Hid (wa.heap[B]? = some (.cells hdZ 28 (0, 0))) := Lib.hid (by rw [← hwa, ← hB]; exact heap_alloc_new _ _)
  rw [hB] at hcut hs hgB
  have K := zWord_any _ _ _ _ wa ((hcut.below hba).more (by omega)) (by omega)
  rw [HM.out] at K
  rw [hB, hwa]
  have HSZ := Lib.hid hsz
  have HBS := Lib.hid hB
  clear hwa hB hsz
  refine K.mono ?_
  rintro e w' ⟨rfl, rfl⟩
  clear K
  have hA : (bits .andNot .u32 4247762216 15 == 407710288) = false := by kernel_rfl
  have h5i : decide ((l.length : Int) < 5) = false := by simp; omega
  have h4j : (4 : Int) < (l.length : Int) := by omega
  have hc4 := (hba.cell (p := ⟨g, o + 4, none⟩) hgB).trans (HCELL.out 4 (by omega))
  have hF := l[4].toNat_lt
  generalize l[4].toNat = F at hc4 hF h8 h32 h4 h3 h64
  have hFi : (F : Int) < 256 := by omega
  go_wp2_with fail
  have hal := alloc2_facts HSZ.out (.cells (hdA true 0 0 false 0 0 (k4 != 0)) 28 (0, 0)) (.cells #[.int .i64 1, .int .i64 2, .int .i64 4, .int .i64 8] 42 (0, 0))
  obtain ⟨w2, hw2⟩ : ∃ w2, (wa.alloc (.cells (hdA true 0 0 false 0 0 (k4 != 0)) 28 (0, 0))).alloc (.cells #[.int .i64 1, .int .i64 2, .int .i64 4, .int .i64 8] 42 (0, 0)) = w2 := ⟨_, rfl⟩
  rw [hw2] at hal ⊢
  obtain ⟨hH2, hZ2, hold, hbl⟩ := hal
  have hb2 : Below B w w2 := hba.trans (hbl.mono (by omega))
  have HR2 : Hid (w2.heap[B]? = some (.cells hdZ 28 (0, 0))) := Lib.hid ((hold B (by omega)).trans HR.out)
  have hcz : w2.cell? ⟨B + 2, v, none⟩ = some (.int .i64 sz) := (cell_of_row w2 (B + 2) v _ 42 (0, 0) hZ2).trans hvi
  have HH2 := Lib.hid hH2
  rw [show wa.heap.size = B + 1 from HSZ.out]
  clear hw2 hH2 hZ2 hold hbl hvi
  have hvI : (v : Int) < 4 := by omega
  have hdI : (d : Int) < 4 := by omega
  have hvJ : (0 : Int) ≤ (v : Int) := by omega
  have hvK : ((v : Int)).toNat = v := by omega
  have hlongI : (l.length : Int) < 5 + (dn : Int) + (sz : Int) := by omega
  go_quiet (fail)
  obtain ⟨w3, hw3⟩ : ∃ w3, w2.drewN nq = w3 := ⟨_, rfl⟩
  have hb3 : Below B w w3 := by rw [← hw3]; exact ⟨hb2.os, hb2.tape, hb2.output, hb2.size, hb2.block⟩
  have HR3 : Hid (w3.heap[B]? = some (.cells hdZ 28 (0, 0))) := Lib.hid (by rw [← hw3]; exact HR2.out)
  rw [hw3]
  clear hw3 nq
  go_wp2_with (refine wpList_store_all (by rfl) 28 (.tmp 2) (.tmp 72) (by rfl) B hdZ (by rfl) (by rfl) 28 hdZ HR3 size28 rfl (hdA_one ..) B (Nat.le_refl _) ?_; intro w9 HR9 hb9 HO9)
  obtain rfl := HBS.out
  exact bodyPost_ret (results_cell_tmp_row rfl _ w9 w.heap.size 28 _ (0, 0) _ rfl HR9.out Tryd.underlying28 rfl size28) rfl ⟨rfl, hb3.trans hb9⟩

set_option maxRecDepth 100000 in
set_option maxHeartbeats 3200000 in
theorem tell_goodT (A : Option Addr) (n c : Nat) (l : List UInt8) (w : World) (hs : Sl w w.heap.size A n c l) (h5 : 5 ≤ l.length) (hM : Lib.leNat (l.take 4) = 4247762216)
    (k4 : Int) (h8 : bits .and .i64 ((l[4].toNat : Nat) : Int) 8 = 0) (h32 : bits .and .i64 ((l[4].toNat : Nat) : Int) 32 = 32) (h4 : bits .and .i64 ((l[4].toNat : Nat) : Int) 4 = k4) (d v dn sz : Nat) (h3 : bits .and .i64 ((l[4].toNat : Nat) : Int) 3 = d) (h64 : ((l[4].toNat : Nat) : Int) / 64 = v)
    (hd : d < 4) (hv : v < 4) (hdn : dn ≤ 4) (hsz8 : sz ≤ 8) (hdi : ∀ W, (Instr.index 42 (.agg #[.int .i64 0, .int .i64 1, .int .i64 2, .int .i64 4]) (.int .i64 d)).run Tryd.prog W = .ok (.int .i64 dn) W) (hvi : #[Value.int .i64 1, Value.int .i64 2, Value.int .i64 4, Value.int .i64 8][v]? = some (.int .i64 sz))
    (hlong : 5 + dn + sz ≤ l.length) :
    Calls Tryd.prog 6 #[.slice A n c] w fun e w' => e = .returned (.tuple #[.agg (hdA true 0 (Lib.leNat ((l.drop 5).take dn)) (decide (0 < sz)) (sV sz (Lib.leNat (((l.drop 5).drop dn).take sz))) (5 + (dn : Int) + sz) (k4 != 0)), .int .i64 0]) ∧ Below w.heap.size w w' := by
  obtain rfl := hs.len
  obtain ⟨g, o, rfl, hgB, hcell⟩ := hs.at_ (by omega)
  have hm := hs.most
  have hcc := hs.cap
  have h4i : (4 : Int) ≤ (l.length : Int) := by omega
  have hcut : Sl w w.heap.size (some ⟨g, o, none⟩) 4 c (l.take 4) := hs.first 4 (by omega)
  have HM := Lib.hid hM
  have HCELL := Lib.hid hcell
  clear hM hcell
  go_enter Tryd.func6, Tryd.ntmps6
  go_wp2_with fail
  obtain ⟨wa, hwa⟩ : ∃ wa, w.alloc (.cells hdZ 28 (0, 0)) = wa := ⟨_, rfl⟩
  obtain ⟨B, hB⟩ : ∃ B, w.heap.size = B := ⟨_, rfl⟩
  have hba : Below B w wa := by rw [← hwa, ← hB]; exact (Below.refl _ w).alloc (Nat.le_refl _) _
  have hsz : wa.heap.size = B + 1 := by rw [← hwa, ← hB]; exact Array.size_push ..
  have HR : Hid (wa.heap[B]? = some (.cells hdZ 28 (0, 0))) := Lib.hid (by rw [← hwa, ← hB]; exact heap_alloc_new _ _)
  rw [hB] at hcut hs hgB
  have K := zWord_any _ _ _ _ wa ((hcut.below hba).more (by omega)) (by omega)
  rw [HM.out] at K
  rw [hB, hwa]
  have HSZ := Lib.hid hsz
  have HBS := Lib.hid hB
  clear hwa hB hsz
  refine K.mono ?_
  rintro e w' ⟨rfl, rfl⟩
  clear K
  have hA : (bits .andNot .u32 4247762216 15 == 407710288) = false := by kernel_rfl
  have h5i : decide ((l.length : Int) < 5) = false := by simp; omega
  have h4j : (4 : Int) < (l.length : Int) := by omega
  have hc4 := (hba.cell (p := ⟨g, o + 4, none⟩) hgB).trans (HCELL.out 4 (by omega))
  have hF := l[4].toNat_lt
  generalize l[4].toNat = F at hc4 hF h8 h32 h4 h3 h64
  have hFi : (F : Int) < 256 := by omega
  go_wp2_with fail
  have hal := alloc2_facts HSZ.out (.cells (hdA true 0 0 false 0 0 (k4 != 0)) 28 (0, 0)) (.cells #[.int .i64 1, .int .i64 2, .int .i64 4, .int .i64 8] 42 (0, 0))
  obtain ⟨w2, hw2⟩ : ∃ w2, (wa.alloc (.cells (hdA true 0 0 false 0 0 (k4 != 0)) 28 (0, 0))).alloc (.cells #[.int .i64 1, .int .i64 2, .int .i64 4, .int .i64 8] 42 (0, 0)) = w2 := ⟨_, rfl⟩
  rw [hw2] at hal ⊢
  obtain ⟨hH2, hZ2, hold, hbl⟩ := hal
  have hb2 : Below B w w2 := hba.trans (hbl.mono (by omega))
  have HR2 : Hid (w2.heap[B]? = some (.cells hdZ 28 (0, 0))) := Lib.hid ((hold B (by omega)).trans HR.out)
  have hcz : w2.cell? ⟨B + 2, v, none⟩ = some (.int .i64 sz) := (cell_of_row w2 (B + 2) v _ 42 (0, 0) hZ2).trans hvi
  have HH2 := Lib.hid hH2
  rw [show wa.heap.size = B + 1 from HSZ.out]
  clear hw2 hH2 hZ2 hold hbl hvi
  have hvI : (v : Int) < 4 := by omega
  have hdI : (d : Int) < 4 := by omega
  have hvJ : (0 : Int) ≤ (v : Int) := by omega
  have hvK : ((v : Int)).toNat = v := by omega
  have hlongI : decide ((l.length : Int) < 5 + (dn : Int) + (sz : Int)) = false := by simp; omega
  have hs5 := hs.next 5 (by omega)
  obtain ⟨A5, hA5⟩ : ∃ A5, (if c = 5 then some (⟨g, o, none⟩ : Addr) else some ⟨g, o + 5, none⟩) = A5 := ⟨_, rfl⟩
  rw [hA5] at hs5
  go_quiet (fail)
  obtain ⟨w3, hw3⟩ : ∃ w3, w2.drewN nq = w3 := ⟨_, rfl⟩
  have hb3 : Below B w w3 := by rw [← hw3]; exact ⟨hb2.os, hb2.tape, hb2.output, hb2.size, hb2.block⟩
  have HH3 : Hid (w3.heap[B + 1]? = some (.cells (hdA true 0 0 false 0 0 (k4 != 0)) 28 (0, 0))) := Lib.hid (by rw [← hw3]; exact HH2.out)
  have HR3 : Hid (w3.heap[B]? = some (.cells hdZ 28 (0, 0))) := Lib.hid (by rw [← hw3]; exact HR2.out)
  rw [hw3]
  clear hw3 nq HH2 HR2 hcz HSZ HR
  have e2 : w3.cell? ⟨B + 1, 2, none⟩ = some (.int .u32 0) := cell_of_row w3 (B + 1) 2 _ 28 (0, 0) HH3.out
  have f2 : w3.frozen? ⟨B + 1, 2, none⟩ = false := frozen_of_row w3 (B + 1) 2 _ 28 HH3.out
  have e3 : w3.cell? ⟨B + 1, 3, none⟩ = some (.bool false) := cell_of_row w3 (B + 1) 3 _ 28 (0, 0) HH3.out
  have f3 : w3.frozen? ⟨B + 1, 3, none⟩ = false := frozen_of_row w3 (B + 1) 3 _ 28 HH3.out
  have e4 : w3.cell? ⟨B + 1, 4, none⟩ = some (.int .u64 0) := cell_of_row w3 (B + 1) 4 _ 28 (0, 0) HH3.out
  have f4 : w3.frozen? ⟨B + 1, 4, none⟩ = false := frozen_of_row w3 (B + 1) 4 _ 28 HH3.out
  have hzW : B ≤ w3.heap.size := Nat.le_trans (Nat.le_of_eq HBS.out.symm) hb3.size
  obtain ⟨r, hr⟩ : ∃ r, r = l.drop (5) := ⟨_, rfl⟩
  rw [← hr] at hs5
  have hrl : r.length = l.length - (5) := by rw [hr]; simp
  have hcutD : Sl w B A5 dn (c - 5) (r.take dn) := hs5.first dn (by omega)
  have hX := leNat_lt (r.take dn)
  have hX2 : (256 : Nat) ^ (r.take dn).length ≤ 256 ^ 4 := Nat.pow_le_pow_right (by omega) (by simp; omega)
  obtain ⟨X, hXX⟩ : ∃ X, Lib.leNat (r.take dn) = X := ⟨_, rfl⟩
  have KD := zWord_any _ _ _ _ w3 ((hcutD.below hb3).more hzW) (by omega)
  rw [hXX] at KD hX
  have hXI : IntKind.u32.wrap (X : Int) = (X : Int) := wraps_u32 _ (by omega) (by omega)
  have HXX := Lib.hid hXX
  have KD := Lib.hid KD
  have HRR := Lib.hid hr
  have hcm : dn + sz ≤ (l.length - 5) := by omega
  have hcm5 : (l.length - 5) ≤ (c - 5) := hs5.cap
  have hI1 : (dn : Int) ≤ (((c - 5) : Nat) : Int) := by omega
  have hI2 : ((dn : Int)).toNat = dn := by omega
  clear hX hX2 hXX hr hrl
  obtain ⟨A6, hA6⟩ : ∃ A6, (if (c - 5) = dn then A5 else Option.map (fun x => x.add dn) A5) = A6 := ⟨_, rfl⟩
  have hcutS : Sl w B A6 sz ((c - 5) - dn) ((r.drop dn).take sz) := by
    have := (hs5.nextA dn (by omega)).first sz (by omega)
    rwa [hA6] at this
  have hY := leNat_lt ((r.drop dn).take sz)
  have hYl : ((r.drop dn).take sz).length ≤ sz := by simp; omega
  have hY2 : (256 : Nat) ^ ((r.drop dn).take sz).length ≤ 256 ^ 8 := Nat.pow_le_pow_right (by omega) (by omega)
  have hY3 : (256 : Nat) ^ ((r.drop dn).take sz).length ≤ 256 ^ sz := Nat.pow_le_pow_right (by omega) hYl
  obtain ⟨Y, hYY⟩ : ∃ Y, Lib.leNat ((r.drop dn).take sz) = Y := ⟨_, rfl⟩
  have hbX : Below B w (w3.setCell ⟨B + 1, 2, none⟩ (.int .u32 X)) := hb3.setCell (p := ⟨B + 1, 2, none⟩) (Nat.le_succ B) _
  have KS := zWord_any _ _ _ _ _ ((hcutS.below hbX).more (Nat.le_trans (Nat.le_of_eq HBS.out.symm) hbX.size)) (by omega)
  rw [hYY] at KS hY
  have hYw : sz = 2 → IntKind.u64.wrap ((Y : Int) + 256) = (Y : Int) + 256 := by
    intro h2
    have hlt := Nat.lt_of_lt_of_le hY hY3
    rw [h2] at hlt
    exact wraps_u64 _ (by omega) (by omega)
  have HYY := Lib.hid hYY
  have KS := Lib.hid KS
  have hI3 : (dn : Int) ≤ (dn : Int) + (sz : Int) := by omega
  have hI4 : (dn : Int) + (sz : Int) ≤ (((c - 5) : Nat) : Int) := by omega
  have hI5 : ((dn : Int) + (sz : Int)).toNat = dn + sz := by omega
  clear hY hY2 hY3 hYY hYl
  go_wp2_with fail
  refine KD.out.mono ?_
  rintro e w' ⟨rfl, rfl⟩
  go_wp2_with fail
  refine KS.out.mono ?_
  rintro e w' ⟨rfl, rfl⟩
  clear hA6 hA5 hI1 hI2 hI3 hI4 hI5 hcut hcutD hcutS hs5 hs hdi h8 h32 h4 h3 h64 hA h5i h4j hc4 hm hcc h4i hXI hvI hdI hvJ hvK hd hv
  go_upto_region 25 with fail
  obtain ⟨w4, hw4⟩ : ∃ w4, ((w3.setCell ⟨B + 1, 2, none⟩ (.int .u32 X)).setCell ⟨B + 1, 3, none⟩ (.bool (decide (0 < sz)))).setCell ⟨B + 1, 4, none⟩ (.int .u64 Y) = w4 := ⟨_, rfl⟩
  have HH4 : Hid (w4.heap[B + 1]? = some (.cells (hdA true 0 X (decide (0 < sz)) Y 0 (k4 != 0)) 28 (0, 0))) := Lib.hid (by
    rw [← hw4]
    simp [World.setCell, Array.getElem?_modify, HH3.out])
  have HR4 : Hid (w4.heap[B]? = some (.cells hdZ 28 (0, 0))) := Lib.hid (by
    rw [← hw4]
    simp [World.setCell, Array.getElem?_modify, HR3.out])
  have hb4 : Below B w w4 := by
    rw [← hw4]
    exact (hbX.setCell (p := ⟨B + 1, 3, none⟩) (Nat.le_succ B) _).setCell (p := ⟨B + 1, 4, none⟩) (Nat.le_succ B) _
  rw [hw4]
  clear hw4 e2 e3 e4 f2 f3 f4 HH3 HR3
  have e4 : w4.cell? ⟨B + 1, 4, none⟩ = some (.int .u64 Y) := cell_of_row w4 (B + 1) 4 _ 28 (0, 0) HH4.out
  have f4 : w4.frozen? ⟨B + 1, 4, none⟩ = false := frozen_of_row w4 (B + 1) 4 _ 28 HH4.out
  have e8 : w4.cell? ⟨B + 1, 8, none⟩ = some (.int .i64 0) := cell_of_row w4 (B + 1) 8 _ 28 (0, 0) HH4.out
  have f8 : w4.frozen? ⟨B + 1, 8, none⟩ = false := frozen_of_row w4 (B + 1) 8 _ 28 HH4.out
  by_cases hs2 : sz = 2
  · subst hs2
    have hYw := hYw rfl
    go_upto_region 28 with fail
    obtain ⟨w5, hw5⟩ : ∃ w5, (w4.setCell ⟨B + 1, 4, none⟩ (.int .u64 ((Y : Int) + 256))).setCell ⟨B + 1, 8, none⟩ (.int .i64 (5 + (dn : Int) + 2)) = w5 := ⟨_, rfl⟩
    have HH5 : Hid (w5.heap[B + 1]? = some (.cells (hdA true 0 X (decide (0 < 2)) ((Y : Int) + 256) (5 + (dn : Int) + 2) (k4 != 0)) 28 (0, 0))) := Lib.hid (by
      rw [← hw5]
      simp [World.setCell, Array.getElem?_modify, HH4.out])
    have HR5 : Hid (w5.heap[B]? = some (.cells hdZ 28 (0, 0))) := Lib.hid (by
      rw [← hw5]
      simp [World.setCell, Array.getElem?_modify, HR4.out])
    have hb5 : Below B w w5 := by
      rw [← hw5]
      exact (hb4.setCell (p := ⟨B + 1, 4, none⟩) (Nat.le_succ B) _).setCell (p := ⟨B + 1, 8, none⟩) (Nat.le_succ B) _
    rw [hw5]
    clear hw5
    go_wp2_with (first
      | (refine wpList_load_row (by rfl) 28 (.tmp 6) (by rfl) (B + 1) (by rfl) 28 (hdA true 0 X (decide (0 < 2)) ((Y : Int) + 256) (5 + (dn : Int) + 2) (k4 != 0)) (0, 0) _ HH5.out Tryd.underlying28 rfl size28 ?_)
      | (refine wpList_store_all (by rfl) 28 (.tmp 2) (.tmp 129) (by rfl) B (hdA true 0 X (decide (0 < 2)) ((Y : Int) + 256) (5 + (dn : Int) + 2) (k4 != 0)) (by rfl) (by rfl) 28 hdZ HR5 size28 rfl (hdA_one ..) B (Nat.le_refl _) ?_; intro w9 HR9 hb9 HO9))
    obtain rfl := HXX.out
    obtain rfl := HYY.out
    obtain rfl := HRR.out
    obtain rfl := HBS.out
    try rw [sV_two]
    exact bodyPost_ret (results_cell_tmp_row rfl _ w9 w.heap.size 28 _ (0, 0) _ rfl HR9.out Tryd.underlying28 rfl size28) rfl ⟨by simp, hb5.trans hb9⟩
  · have hs2i : ¬ (sz : Int) = 2 := by omega
    clear hYw
    go_upto_region 28 with fail
    obtain ⟨w5, hw5⟩ : ∃ w5, w4.setCell ⟨B + 1, 8, none⟩ (.int .i64 (5 + (dn : Int) + sz)) = w5 := ⟨_, rfl⟩
    have HH5 : Hid (w5.heap[B + 1]? = some (.cells (hdA true 0 X (decide (0 < sz)) ((Y : Int)) (5 + (dn : Int) + sz) (k4 != 0)) 28 (0, 0))) := Lib.hid (by
      rw [← hw5]
      simp [World.setCell, Array.getElem?_modify, HH4.out])
    have HR5 : Hid (w5.heap[B]? = some (.cells hdZ 28 (0, 0))) := Lib.hid (by
      rw [← hw5]
      simp [World.setCell, Array.getElem?_modify, HR4.out])
    have hb5 : Below B w w5 := by
      rw [← hw5]
      exact hb4.setCell (p := ⟨B + 1, 8, none⟩) (Nat.le_succ B) _
    rw [hw5]
    clear hw5
    go_wp2_with (first
      | (refine wpList_load_row (by rfl) 28 (.tmp 6) (by rfl) (B + 1) (by rfl) 28 (hdA true 0 X (decide (0 < sz)) ((Y : Int)) (5 + (dn : Int) + sz) (k4 != 0)) (0, 0) _ HH5.out Tryd.underlying28 rfl size28 ?_)
      | (refine wpList_store_all (by rfl) 28 (.tmp 2) (.tmp 129) (by rfl) B (hdA true 0 X (decide (0 < sz)) ((Y : Int)) (5 + (dn : Int) + sz) (k4 != 0)) (by rfl) (by rfl) 28 hdZ HR5 size28 rfl (hdA_one ..) B (Nat.le_refl _) ?_; intro w9 HR9 hb9 HO9))
    obtain rfl := HXX.out
    obtain rfl := HYY.out
    obtain rfl := HRR.out
    obtain rfl := HBS.out
    rw [sV_ne hs2]
    exact bodyPost_ret (results_cell_tmp_row rfl _ w9 w.heap.size 28 _ (0, 0) _ rfl HR9.out Tryd.underlying28 rfl size28) rfl ⟨rfl, hb5.trans hb9⟩

set_option maxRecDepth 100000 in
set_option maxHeartbeats 3200000 in
theorem tell_shortF (A : Option Addr) (n c : Nat) (l : List UInt8) (w : World) (hs : Sl w w.heap.size A n c l) (h5 : 5 ≤ l.length) (hM : Lib.leNat (l.take 4) = 4247762216)
    (k4 : Int) (h8 : bits .and .i64 ((l[4].toNat : Nat) : Int) 8 = 0) (h32 : bits .and .i64 ((l[4].toNat : Nat) : Int) 32 = 0) (h4 : bits .and .i64 ((l[4].toNat : Nat) : Int) 4 = k4) (d v dn sz : Nat) (h3 : bits .and .i64 ((l[4].toNat : Nat) : Int) 3 = d) (h64 : ((l[4].toNat : Nat) : Int) / 64 = v)
    (hd : d < 4) (hv : v < 4) (hdn : dn ≤ 4) (hsz8 : sz ≤ 8) (hdi : ∀ W, (Instr.index 42 (.agg #[.int .i64 0, .int .i64 1, .int .i64 2, .int .i64 4]) (.int .i64 d)).run Tryd.prog W = .ok (.int .i64 dn) W) (hvi : #[Value.int .i64 0, Value.int .i64 2, Value.int .i64 4, Value.int .i64 8][v]? = some (.int .i64 sz))
    (hlong : ¬ 5 + 1 + dn + sz ≤ l.length) :
    Calls Tryd.prog 6 #[.slice A n c] w fun e w' => e = .returned (.tuple #[.agg hdZ, .int .i64 1]) ∧ Below w.heap.size w w' := by
  obtain rfl := hs.len
  obtain ⟨g, o, rfl, hgB, hcell⟩ := hs.at_ (by omega)
  have hm := hs.most
  have hcc := hs.cap
  have h4i : (4 : Int) ≤ (l.length : Int) := by omega
  have hcut : Sl w w.heap.size (some ⟨g, o, none⟩) 4 c (l.take 4) := hs.first 4 (by omega)
  have HM := Lib.hid hM
  have HCELL := Lib.hid hcell
  clear hM hcell
  go_enter Tryd.func6, Tryd.ntmps6
  go_wp2_with fail
  obtain ⟨wa, hwa⟩ : ∃ wa, w.alloc (.cells hdZ 28 (0, 0)) = wa := ⟨_, rfl⟩
  obtain ⟨B, hB⟩ : ∃ B, w.heap.size = B := ⟨_, rfl⟩
  have hba : Below B w wa := by rw [← hwa, ← hB]; exact (Below.refl _ w).alloc (Nat.le_refl _) _
  have hsz : wa.heap.size = B + 1 := by rw [← hwa, ← hB]; exact Array.size_push ..
  have HR : Hid (wa.heap[B]? = some (.cells hdZ 28 (0, 0))) := Lib.hid (by rw [← hwa, ← hB]; exact heap_alloc_new _ _)
  rw [hB] at hcut hs hgB
  have K := zWord_any _ _ _ _ wa ((hcut.below hba).more (by omega)) (by omega)
  rw [HM.out] at K
  rw [hB, hwa]
  have HSZ := Lib.hid hsz
  have HBS := Lib.hid hB
  clear hwa hB hsz
  refine K.mono ?_
  rintro e w' ⟨rfl, rfl⟩
  clear K
  have hA : (bits .andNot .u32 4247762216 15 == 407710288) = false := by kernel_rfl
  have h5i : decide ((l.length : Int) < 5) = false := by simp; omega
  have h4j : (4 : Int) < (l.length : Int) := by omega
  have hc4 := (hba.cell (p := ⟨g, o + 4, none⟩) hgB).trans (HCELL.out 4 (by omega))
  have hF := l[4].toNat_lt
  generalize l[4].toNat = F at hc4 hF h8 h32 h4 h3 h64
  have hFi : (F : Int) < 256 := by omega
  go_wp2_with fail
  have hal := alloc2_facts HSZ.out (.cells (hdA false 0 0 false 0 0 (k4 != 0)) 28 (0, 0)) (.cells #[.int .i64 0, .int .i64 2, .int .i64 4, .int .i64 8] 42 (0, 0))
  obtain ⟨w2, hw2⟩ : ∃ w2, (wa.alloc (.cells (hdA false 0 0 false 0 0 (k4 != 0)) 28 (0, 0))).alloc (.cells #[.int .i64 0, .int .i64 2, .int .i64 4, .int .i64 8] 42 (0, 0)) = w2 := ⟨_, rfl⟩
  rw [hw2] at hal ⊢
  obtain ⟨hH2, hZ2, hold, hbl⟩ := hal
  have hb2 : Below B w w2 := hba.trans (hbl.mono (by omega))
  have HR2 : Hid (w2.heap[B]? = some (.cells hdZ 28 (0, 0))) := Lib.hid ((hold B (by omega)).trans HR.out)
  have hcz : w2.cell? ⟨B + 2, v, none⟩ = some (.int .i64 sz) := (cell_of_row w2 (B + 2) v _ 42 (0, 0) hZ2).trans hvi
  have HH2 := Lib.hid hH2
  rw [show wa.heap.size = B + 1 from HSZ.out]
  clear hw2 hH2 hZ2 hold hbl hvi
  have hvI : (v : Int) < 4 := by omega
  have hdI : (d : Int) < 4 := by omega
  have hvJ : (0 : Int) ≤ (v : Int) := by omega
  have hvK : ((v : Int)).toNat = v := by omega
  have hlongI : (l.length : Int) < 6 + (dn : Int) + (sz : Int) := by omega
  go_quiet (fail)
  obtain ⟨w3, hw3⟩ : ∃ w3, w2.drewN nq = w3 := ⟨_, rfl⟩
  have hb3 : Below B w w3 := by rw [← hw3]; exact ⟨hb2.os, hb2.tape, hb2.output, hb2.size, hb2.block⟩
  have HR3 : Hid (w3.heap[B]? = some (.cells hdZ 28 (0, 0))) := Lib.hid (by rw [← hw3]; exact HR2.out)
  rw [hw3]
  clear hw3 nq
  go_wp2_with (refine wpList_store_all (by rfl) 28 (.tmp 2) (.tmp 72) (by rfl) B hdZ (by rfl) (by rfl) 28 hdZ HR3 size28 rfl (hdA_one ..) B (Nat.le_refl _) ?_; intro w9 HR9 hb9 HO9)
  obtain rfl := HBS.out
  exact bodyPost_ret (results_cell_tmp_row rfl _ w9 w.heap.size 28 _ (0, 0) _ rfl HR9.out Tryd.underlying28 rfl size28) rfl ⟨rfl, hb3.trans hb9⟩

set_option maxRecDepth 100000 in
set_option maxHeartbeats 3200000 in
theorem tell_goodF (A : Option Addr) (n c : Nat) (l : List UInt8) (w : World) (hs : Sl w w.heap.size A n c l) (h5 : 5 ≤ l.length) (hM : Lib.leNat (l.take 4) = 4247762216)
    (k4 : Int) (h8 : bits .and .i64 ((l[4].toNat : Nat) : Int) 8 = 0) (h32 : bits .and .i64 ((l[4].toNat : Nat) : Int) 32 = 0) (h4 : bits .and .i64 ((l[4].toNat : Nat) : Int) 4 = k4) (d v dn sz : Nat) (h3 : bits .and .i64 ((l[4].toNat : Nat) : Int) 3 = d) (h64 : ((l[4].toNat : Nat) : Int) / 64 = v)
    (hd : d < 4) (hv : v < 4) (hdn : dn ≤ 4) (hsz8 : sz ≤ 8) (hdi : ∀ W, (Instr.index 42 (.agg #[.int .i64 0, .int .i64 1, .int .i64 2, .int .i64 4]) (.int .i64 d)).run Tryd.prog W = .ok (.int .i64 dn) W) (hvi : #[Value.int .i64 0, Value.int .i64 2, Value.int .i64 4, Value.int .i64 8][v]? = some (.int .i64 sz))
    (hlong : 5 + 1 + dn + sz ≤ l.length) :
    Calls Tryd.prog 6 #[.slice A n c] w fun e w' => e = .returned (.tuple #[.agg (hdA false (winV l[5].toNat) (Lib.leNat ((l.drop 6).take dn)) (decide (0 < sz)) (sV sz (Lib.leNat (((l.drop 6).drop dn).take sz))) (6 + (dn : Int) + sz) (k4 != 0)), .int .i64 0]) ∧ Below w.heap.size w w' := by
  obtain rfl := hs.len
  obtain ⟨g, o, rfl, hgB, hcell⟩ := hs.at_ (by omega)
  have hm := hs.most
  have hcc := hs.cap
  have h4i : (4 : Int) ≤ (l.length : Int) := by omega
  have hcut : Sl w w.heap.size (some ⟨g, o, none⟩) 4 c (l.take 4) := hs.first 4 (by omega)
  have HM := Lib.hid hM
  have HCELL := Lib.hid hcell
  clear hM hcell
  go_enter Tryd.func6, Tryd.ntmps6
  go_wp2_with fail
  obtain ⟨wa, hwa⟩ : ∃ wa, w.alloc (.cells hdZ 28 (0, 0)) = wa := ⟨_, rfl⟩
  obtain ⟨B, hB⟩ : ∃ B, w.heap.size = B := ⟨_, rfl⟩
  have hba : Below B w wa := by rw [← hwa, ← hB]; exact (Below.refl _ w).alloc (Nat.le_refl _) _
  have hsz : wa.heap.size = B + 1 := by rw [← hwa, ← hB]; exact Array.size_push ..
  have HR : Hid (wa.heap[B]? = some (.cells hdZ 28 (0, 0))) := Lib.hid (by rw [← hwa, ← hB]; exact heap_alloc_new _ _)
  rw [hB] at hcut hs hgB
  have K := zWord_any _ _ _ _ wa ((hcut.below hba).more (by omega)) (by omega)
  rw [HM.out] at K
  rw [hB, hwa]
  have HSZ := Lib.hid hsz
  have HBS := Lib.hid hB
  clear hwa hB hsz
  refine K.mono ?_
  rintro e w' ⟨rfl, rfl⟩
  clear K
  have hA : (bits .andNot .u32 4247762216 15 == 407710288) = false := by kernel_rfl
  have h5i : decide ((l.length : Int) < 5) = false := by simp; omega
  have h4j : (4 : Int) < (l.length : Int) := by omega
  have hc4 := (hba.cell (p := ⟨g, o + 4, none⟩) hgB).trans (HCELL.out 4 (by omega))
  have hF := l[4].toNat_lt
  generalize l[4].toNat = F at hc4 hF h8 h32 h4 h3 h64
  have hFi : (F : Int) < 256 := by omega
  go_wp2_with fail
  have hal := alloc2_facts HSZ.out (.cells (hdA false 0 0 false 0 0 (k4 != 0)) 28 (0, 0)) (.cells #[.int .i64 0, .int .i64 2, .int .i64 4, .int .i64 8] 42 (0, 0))
  obtain ⟨w2, hw2⟩ : ∃ w2, (wa.alloc (.cells (hdA false 0 0 false 0 0 (k4 != 0)) 28 (0, 0))).alloc (.cells #[.int .i64 0, .int .i64 2, .int .i64 4, .int .i64 8] 42 (0, 0)) = w2 := ⟨_, rfl⟩
  rw [hw2] at hal ⊢
  obtain ⟨hH2, hZ2, hold, hbl⟩ := hal
  have hb2 : Below B w w2 := hba.trans (hbl.mono (by omega))
  have HR2 : Hid (w2.heap[B]? = some (.cells hdZ 28 (0, 0))) := Lib.hid ((hold B (by omega)).trans HR.out)
  have hcz : w2.cell? ⟨B + 2, v, none⟩ = some (.int .i64 sz) := (cell_of_row w2 (B + 2) v _ 42 (0, 0) hZ2).trans hvi
  have HH2 := Lib.hid hH2
  rw [show wa.heap.size = B + 1 from HSZ.out]
  clear hw2 hH2 hZ2 hold hbl hvi
  have hvI : (v : Int) < 4 := by omega
  have hdI : (d : Int) < 4 := by omega
  have hvJ : (0 : Int) ≤ (v : Int) := by omega
  have hvK : ((v : Int)).toNat = v := by omega
  have hlongI : decide ((l.length : Int) < 6 + (dn : Int) + (sz : Int)) = false := by simp; omega
  have hc5 : ¬ c = 5 := by omega
  have hs5a := hs.next 5 (by omega)
  rw [if_neg hc5] at hs5a
  have hs5 := hs5a.next 1 (by omega)
  obtain ⟨A5, hA5⟩ : ∃ A5, (if c - 5 = 1 then some (⟨g, o + 5, none⟩ : Addr) else some ⟨g, o + 5 + 1, none⟩) = A5 := ⟨_, rfl⟩
  rw [hA5, List.drop_drop] at hs5
  go_quiet (fail)
  obtain ⟨w3, hw3⟩ : ∃ w3, w2.drewN nq = w3 := ⟨_, rfl⟩
  have hb3 : Below B w w3 := by rw [← hw3]; exact ⟨hb2.os, hb2.tape, hb2.output, hb2.size, hb2.block⟩
  have HH3 : Hid (w3.heap[B + 1]? = some (.cells (hdA false 0 0 false 0 0 (k4 != 0)) 28 (0, 0))) := Lib.hid (by rw [← hw3]; exact HH2.out)
  have HR3 : Hid (w3.heap[B]? = some (.cells hdZ 28 (0, 0))) := Lib.hid (by rw [← hw3]; exact HR2.out)
  rw [hw3]
  clear hw3 nq HH2 HR2 hcz HSZ HR
  have e1 : w3.cell? ⟨B + 1, 1, none⟩ = some (.int .u64 0) := cell_of_row w3 (B + 1) 1 _ 28 (0, 0) HH3.out
  have f1 : w3.frozen? ⟨B + 1, 1, none⟩ = false := frozen_of_row w3 (B + 1) 1 _ 28 HH3.out
  have hcb := (hb3.cell (p := ⟨g, o + 5, none⟩) hgB).trans (HCELL.out 5 (by omega))
  have hbl : l[5].toNat < 256 := l[5].toNat_lt
  obtain ⟨b, hbb⟩ : ∃ b, l[5].toNat = b := ⟨_, rfl⟩
  rw [hbb] at hcb hbl
  have HBB := Lib.hid hbb
  clear hbb
  have hbI : (b : Int) < 256 := by omega
  have h5c : (5 : Int) < (l.length : Int) := by omega
  have h51 : (1 : Int) ≤ ((c - 5 : Nat) : Int) := by omega
  go_upto_region 22 with fail
  obtain ⟨w6, hw6⟩ : ∃ w6, w3.setCell ⟨B + 1, 1, none⟩ (.int .u64 (winV b)) = w6 := ⟨_, rfl⟩
  have HH6 : Hid (w6.heap[B + 1]? = some (.cells (hdA false (winV b) 0 false 0 0 (k4 != 0)) 28 (0, 0))) := Lib.hid (by
    rw [← hw6]
    simp [World.setCell, Array.getElem?_modify, HH3.out])
  have HR6 : Hid (w6.heap[B]? = some (.cells hdZ 28 (0, 0))) := Lib.hid (by
    rw [← hw6]
    simp [World.setCell, Array.getElem?_modify, HR3.out])
  have hb6 : Below B w w6 := by
    rw [← hw6]
    exact hb3.setCell (p := ⟨B + 1, 1, none⟩) (Nat.le_succ B) _
  unfold winV at hw6
  rw [hw6]
  clear hw6 e1 f1 HH3 HR3 hb3 hcb hbl hbI h5c
  have e2 : w6.cell? ⟨B + 1, 2, none⟩ = some (.int .u32 0) := cell_of_row w6 (B + 1) 2 _ 28 (0, 0) HH6.out
  have f2 : w6.frozen? ⟨B + 1, 2, none⟩ = false := frozen_of_row w6 (B + 1) 2 _ 28 HH6.out
  have e3 : w6.cell? ⟨B + 1, 3, none⟩ = some (.bool false) := cell_of_row w6 (B + 1) 3 _ 28 (0, 0) HH6.out
  have f3 : w6.frozen? ⟨B + 1, 3, none⟩ = false := frozen_of_row w6 (B + 1) 3 _ 28 HH6.out
  have e4 : w6.cell? ⟨B + 1, 4, none⟩ = some (.int .u64 0) := cell_of_row w6 (B + 1) 4 _ 28 (0, 0) HH6.out
  have f4 : w6.frozen? ⟨B + 1, 4, none⟩ = false := frozen_of_row w6 (B + 1) 4 _ 28 HH6.out
  have hzW : B ≤ w6.heap.size := Nat.le_trans (Nat.le_of_eq HBS.out.symm) hb6.size
  obtain ⟨r, hr⟩ : ∃ r, r = l.drop (5 + 1) := ⟨_, rfl⟩
  rw [← hr] at hs5
  have hrl : r.length = l.length - (5 + 1) := by rw [hr]; simp
  have hcutD : Sl w B A5 dn (c - 5 - 1) (r.take dn) := hs5.first dn (by omega)
  have hX := leNat_lt (r.take dn)
  have hX2 : (256 : Nat) ^ (r.take dn).length ≤ 256 ^ 4 := Nat.pow_le_pow_right (by omega) (by simp; omega)
  obtain ⟨X, hXX⟩ : ∃ X, Lib.leNat (r.take dn) = X := ⟨_, rfl⟩
  have KD := zWord_any _ _ _ _ w6 ((hcutD.below hb6).more hzW) (by omega)
  rw [hXX] at KD hX
  have hXI : IntKind.u32.wrap (X : Int) = (X : Int) := wraps_u32 _ (by omega) (by omega)
  have HXX := Lib.hid hXX
  have KD := Lib.hid KD
  have HRR := Lib.hid hr
  have hcm : dn + sz ≤ (l.length - 5 - 1) := by omega
  have hcm5 : (l.length - 5 - 1) ≤ (c - 5 - 1) := hs5.cap
  have hI1 : (dn : Int) ≤ (((c - 5 - 1) : Nat) : Int) := by omega
  have hI2 : ((dn : Int)).toNat = dn := by omega
  clear hX hX2 hXX hr hrl
  obtain ⟨A6, hA6⟩ : ∃ A6, (if (c - 5 - 1) = dn then A5 else Option.map (fun x => x.add dn) A5) = A6 := ⟨_, rfl⟩
  have hcutS : Sl w B A6 sz ((c - 5 - 1) - dn) ((r.drop dn).take sz) := by
    have := (hs5.nextA dn (by omega)).first sz (by omega)
    rwa [hA6] at this
  have hY := leNat_lt ((r.drop dn).take sz)
  have hYl : ((r.drop dn).take sz).length ≤ sz := by simp; omega
  have hY2 : (256 : Nat) ^ ((r.drop dn).take sz).length ≤ 256 ^ 8 := Nat.pow_le_pow_right (by omega) (by omega)
  have hY3 : (256 : Nat) ^ ((r.drop dn).take sz).length ≤ 256 ^ sz := Nat.pow_le_pow_right (by omega) hYl
  obtain ⟨Y, hYY⟩ : ∃ Y, Lib.leNat ((r.drop dn).take sz) = Y := ⟨_, rfl⟩
  have hbX : Below B w (w6.setCell ⟨B + 1, 2, none⟩ (.int .u32 X)) := hb6.setCell (p := ⟨B + 1, 2, none⟩) (Nat.le_succ B) _
  have KS := zWord_any _ _ _ _ _ ((hcutS.below hbX).more (Nat.le_trans (Nat.le_of_eq HBS.out.symm) hbX.size)) (by omega)
  rw [hYY] at KS hY
  have hYw : sz = 2 → IntKind.u64.wrap ((Y : Int) + 256) = (Y : Int) + 256 := by
    intro h2
    have hlt := Nat.lt_of_lt_of_le hY hY3
    rw [h2] at hlt
    exact wraps_u64 _ (by omega) (by omega)
  have HYY := Lib.hid hYY
  have KS := Lib.hid KS
  have hI3 : (dn : Int) ≤ (dn : Int) + (sz : Int) := by omega
  have hI4 : (dn : Int) + (sz : Int) ≤ (((c - 5 - 1) : Nat) : Int) := by omega
  have hI5 : ((dn : Int) + (sz : Int)).toNat = dn + sz := by omega
  clear hY hY2 hY3 hYY hYl
  go_wp2_with fail
  refine KD.out.mono ?_
  rintro e w' ⟨rfl, rfl⟩
  go_wp2_with fail
  refine KS.out.mono ?_
  rintro e w' ⟨rfl, rfl⟩
  clear hA6 hA5 hI1 hI2 hI3 hI4 hI5 hcut hcutD hcutS hs5 hs hdi h8 h32 h4 h3 h64 hA h5i h4j hc4 hm hcc h4i hXI hvI hdI hvJ hvK hd hv
  go_upto_region 25 with fail
  obtain ⟨w4, hw4⟩ : ∃ w4, ((w6.setCell ⟨B + 1, 2, none⟩ (.int .u32 X)).setCell ⟨B + 1, 3, none⟩ (.bool (decide (0 < sz)))).setCell ⟨B + 1, 4, none⟩ (.int .u64 Y) = w4 := ⟨_, rfl⟩
  have HH4 : Hid (w4.heap[B + 1]? = some (.cells (hdA false (winV b) X (decide (0 < sz)) Y 0 (k4 != 0)) 28 (0, 0))) := Lib.hid (by
    rw [← hw4]
    simp [World.setCell, Array.getElem?_modify, HH6.out])
  have HR4 : Hid (w4.heap[B]? = some (.cells hdZ 28 (0, 0))) := Lib.hid (by
    rw [← hw4]
    simp [World.setCell, Array.getElem?_modify, HR6.out])
  have hb4 : Below B w w4 := by
    rw [← hw4]
    exact (hbX.setCell (p := ⟨B + 1, 3, none⟩) (Nat.le_succ B) _).setCell (p := ⟨B + 1, 4, none⟩) (Nat.le_succ B) _
  rw [hw4]
  clear hw4 e2 e3 e4 f2 f3 f4 HH6 HR6
  have e4 : w4.cell? ⟨B + 1, 4, none⟩ = some (.int .u64 Y) := cell_of_row w4 (B + 1) 4 _ 28 (0, 0) HH4.out
  have f4 : w4.frozen? ⟨B + 1, 4, none⟩ = false := frozen_of_row w4 (B + 1) 4 _ 28 HH4.out
  have e8 : w4.cell? ⟨B + 1, 8, none⟩ = some (.int .i64 0) := cell_of_row w4 (B + 1) 8 _ 28 (0, 0) HH4.out
  have f8 : w4.frozen? ⟨B + 1, 8, none⟩ = false := frozen_of_row w4 (B + 1) 8 _ 28 HH4.out
  by_cases hs2 : sz = 2
  · subst hs2
    have hYw := hYw rfl
    go_upto_region 28 with fail
    obtain ⟨w5, hw5⟩ : ∃ w5, (w4.setCell ⟨B + 1, 4, none⟩ (.int .u64 ((Y : Int) + 256))).setCell ⟨B + 1, 8, none⟩ (.int .i64 (6 + (dn : Int) + 2)) = w5 := ⟨_, rfl⟩
    have HH5 : Hid (w5.heap[B + 1]? = some (.cells (hdA false (winV b) X (decide (0 < 2)) ((Y : Int) + 256) (6 + (dn : Int) + 2) (k4 != 0)) 28 (0, 0))) := Lib.hid (by
      rw [← hw5]
      simp [World.setCell, Array.getElem?_modify, HH4.out])
    have HR5 : Hid (w5.heap[B]? = some (.cells hdZ 28 (0, 0))) := Lib.hid (by
      rw [← hw5]
      simp [World.setCell, Array.getElem?_modify, HR4.out])
    have hb5 : Below B w w5 := by
      rw [← hw5]
      exact (hb4.setCell (p := ⟨B + 1, 4, none⟩) (Nat.le_succ B) _).setCell (p := ⟨B + 1, 8, none⟩) (Nat.le_succ B) _
    rw [hw5]
    clear hw5
    go_wp2_with (first
      | (refine wpList_load_row (by rfl) 28 (.tmp 6) (by rfl) (B + 1) (by rfl) 28 (hdA false (winV b) X (decide (0 < 2)) ((Y : Int) + 256) (6 + (dn : Int) + 2) (k4 != 0)) (0, 0) _ HH5.out Tryd.underlying28 rfl size28 ?_)
      | (refine wpList_store_all (by rfl) 28 (.tmp 2) (.tmp 129) (by rfl) B (hdA false (winV b) X (decide (0 < 2)) ((Y : Int) + 256) (6 + (dn : Int) + 2) (k4 != 0)) (by rfl) (by rfl) 28 hdZ HR5 size28 rfl (hdA_one ..) B (Nat.le_refl _) ?_; intro w9 HR9 hb9 HO9))
    obtain rfl := HXX.out
    obtain rfl := HYY.out
    obtain rfl := HRR.out
    obtain rfl := HBS.out
    obtain rfl := HBB.out
    try rw [sV_two]
    exact bodyPost_ret (results_cell_tmp_row rfl _ w9 w.heap.size 28 _ (0, 0) _ rfl HR9.out Tryd.underlying28 rfl size28) rfl ⟨by simp, hb5.trans hb9⟩
  · have hs2i : ¬ (sz : Int) = 2 := by omega
    clear hYw
    go_upto_region 28 with fail
    obtain ⟨w5, hw5⟩ : ∃ w5, w4.setCell ⟨B + 1, 8, none⟩ (.int .i64 (6 + (dn : Int) + sz)) = w5 := ⟨_, rfl⟩
    have HH5 : Hid (w5.heap[B + 1]? = some (.cells (hdA false (winV b) X (decide (0 < sz)) ((Y : Int)) (6 + (dn : Int) + sz) (k4 != 0)) 28 (0, 0))) := Lib.hid (by
      rw [← hw5]
      simp [World.setCell, Array.getElem?_modify, HH4.out])
    have HR5 : Hid (w5.heap[B]? = some (.cells hdZ 28 (0, 0))) := Lib.hid (by
      rw [← hw5]
      simp [World.setCell, Array.getElem?_modify, HR4.out])
    have hb5 : Below B w w5 := by
      rw [← hw5]
      exact hb4.setCell (p := ⟨B + 1, 8, none⟩) (Nat.le_succ B) _
    rw [hw5]
    clear hw5
    go_wp2_with (first
      | (refine wpList_load_row (by rfl) 28 (.tmp 6) (by rfl) (B + 1) (by rfl) 28 (hdA false (winV b) X (decide (0 < sz)) ((Y : Int)) (6 + (dn : Int) + sz) (k4 != 0)) (0, 0) _ HH5.out Tryd.underlying28 rfl size28 ?_)
      | (refine wpList_store_all (by rfl) 28 (.tmp 2) (.tmp 129) (by rfl) B (hdA false (winV b) X (decide (0 < sz)) ((Y : Int)) (6 + (dn : Int) + sz) (k4 != 0)) (by rfl) (by rfl) 28 hdZ HR5 size28 rfl (hdA_one ..) B (Nat.le_refl _) ?_; intro w9 HR9 hb9 HO9))
    obtain rfl := HXX.out
    obtain rfl := HYY.out
    obtain rfl := HRR.out
    obtain rfl := HBS.out
    obtain rfl := HBB.out
    rw [sV_ne hs2]
    exact bodyPost_ret (results_cell_tmp_row rfl _ w9 w.heap.size 28 _ (0, 0) _ rfl HR9.out Tryd.underlying28 rfl size28) rfl ⟨rfl, hb5.trans hb9⟩

end Go.Proofs.YtiobfiepapflaaaDoor
