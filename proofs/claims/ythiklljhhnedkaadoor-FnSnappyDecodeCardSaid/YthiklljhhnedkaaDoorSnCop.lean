/-
  (*snReader).copied. Conditions: those of each.
-/
import Derived.Test.YthiklljhhnedkaaDoorSnLit
import Derived.Deep.RegionLaw
namespace Go.Proofs.YthiklljhhnedkaaDoor
open Go.RowKit

theorem step_append_sl {ops : Array Oper} {o : Oper} {a : Act} {w : World} {K : Act → World → Prop} {Q : Exit → Act → World → Prop} {E : Prop} (hg : o.guard = none) (s x : Operand)
    (ho : o.op = .call { callee := .builtin .append, args := #[s, x], argTypes := #[22, 22] })
    (base : Nat) (v : Value) (l l2 : List UInt8) (hs : a.eval s = v) (hown : Own w base v l) (B : Nat) (A : Option Addr) (n c : Nat) (hx : a.eval x = .slice A n c) (hsl : Sl w B A n c l2)
    (hbytes : l.length + n ≤ 140737488355328) (hbase : base ≤ w.heap.size) (n' : Nat) (l' : List UInt8) (hn' : l.length + n = n') (hl' : l ++ l2 = l')
    (h : ∀ A' c' w', App w w' base v A' n' c' l' → K (a.put o.dst (.slice A' n' c')) w') : if Region.wanted o (yielded ops a.tmps) = true then Oper.wp Tryd.prog o a w K Q else E := by
  have hw : Region.wanted o (yielded ops a.tmps) = true := by simp [Region.wanted, hg]
  rw [if_pos hw]
  exact wp_append_sl w s x ho base v l l2 hs hown B A n c hx hsl hbytes hbase n' l' hn' hl' h

theorem Sl.one (w : World) (b : UInt8) : Sl (w.alloc (.cells #[.int .u8 b.toNat] 5 (0, 0))) (w.heap.size + 1) (some ⟨w.heap.size, 0, none⟩) 1 1 [b] := by
  refine ⟨rfl, Nat.le_refl _, by unfold maxLen; omega, .inr ⟨w.heap.size, 0, rfl, by omega, fun j hj => ?_⟩⟩
  obtain rfl : j = 0 := by simpa using hj
  rw [cell_of_row _ w.heap.size 0 _ 5 (0, 0) (heap_alloc_new w _)]
  rfl

theorem App.row40 {w w' : World} {D : Nat} {v : Value} {A' : Option Addr} {n' c' : Nat} {l' : List UInt8} {R : Array Value} (h : App w w' (D + 1) v A' n' c' l') (hd : Hid (w.heap[D]? = some (.cells R 40 (0, 0)))) : Hid (w'.heap[D]? = some (.cells R 40 (0, 0))) :=
  Lib.hid ((h.bel.block D (by omega)).trans hd.out)
/-- the head of the loop -/
def RelC (D : Nat) (A : Option Addr) (n c : Nat) (p O LEN : Nat) (o : List UInt8) (w : World) (lv : Value) (wr : World) : Prop :=
  ∃ i, i ≤ LEN ∧ lv = .int .i64 ((LEN : Int) - i) ∧ RdSt wr D A n c p (copyN o O i) ∧ Below D w wr

set_option maxRecDepth 100000 in
set_option maxHeartbeats 3200000 in
theorem cop_good1 (D : Nat) (A : Option Addr) (n c : Nat) (l : List UInt8) (p x y f N O LEN : Nat) (o : List UInt8) (w : World) (hsl : Sl w D A n c l) (hr : RdSt w D A n c p o) (hn : n ≤ 2147483647) (hf : (f : Int) / 4 = x) (hf5 : (f : Int) / 32 = y) (hx : x < 64) (hy : y < 8)
    (hsp : p + 1 ≤ n) (hNe : Lib.leNat ((l.drop p).take 1) = N) (hO : N + y * 256 = O) (hLe : x % 8 + 4 = LEN) (hO0 : 0 < O) (hOl : O ≤ o.length) (ho : o.length ≤ 200000) :
    Calls Tryd.prog 13 #[.pointer (some ⟨D, 0, none⟩), .int .i64 f, .int .i64 1] w fun e w' => e = .returned (.bool true) ∧ RdSt w' D A n c (p + 1) (copyN o O LEN) ∧ Below D w w' := by
  obtain rfl := hsl.len
  have hm := hsl.most
  have hcc := hsl.cap
  obtain ⟨v, hd, hown⟩ := hr
  have KL := Lib.hid (little_good D A l.length c l p 1 v 0 w hsl hd hn (by omega) (by omega) hsp)
  have HN := Lib.hid hNe
  have HO := Lib.hid hown
  have hNb := leNat_below ((l.drop p).take 1)
  rw [hNe, show ((l.drop p).take 1).length = 1 by simp; omega] at hNb
  have h7 : bits .and .i64 (x : Int) 7 = ((x % 8 : Nat) : Int) := by
    have := (bits_nat .i64 62 (by decide) (fun n h0 h1 => by rw [IntKind.wrap_i64]; omega) x 7 (by omega) (by omega)).1
    rw [show x &&& 7 = x % 8 from Nat.and_two_pow_sub_one_eq_mod x 3] at this
    exact this
  clear hown hsl hNe
  go_enter Tryd.func13, Tryd.ntmps13
  go_wp2_with fail
  refine KL.out.mono ?_
  rintro e w1 ⟨rfl, m, hw1⟩
  rw [HN.out]
  have HD1 : Hid (w1.heap[D]? = some (.cells (rdA A l.length c ((p : Int) + 1) v 0) 40 (0, 0))) := by rw [hw1]; exact row40 (row40d hd)
  have hb1 : Below D w w1 := by rw [hw1]; exact bel40 (bel40d (Below.refl _ _) _) _
  have HO1 : Own w1 (D + 1) v o := by rw [hw1]; exact (HO.out.drewN _).set40
  obtain ⟨Ao, co, hv, hslo, _⟩ := HO1.form
  subst hv
  have k2 := cell_of_row w1 D 2 _ 40 (0, 0) HD1.out
  have hOi : (N : Int) + (y : Int) * 256 = (O : Int) := by omega
  have hOj : decide ((o.length : Int) < (O : Int)) = false := by simp; omega
  have hOd : decide (o.length < O) = false := by simp; omega
  have hOk : ((O : Int) == 0) = false := by simp; omega
  have hyi : (y : Int) < 8 := by omega
  have hNi : (N : Int) < 256 := by omega
  have hxi : (((x % 8 : Nat)) : Int) < 8 := by omega
  clear hw1 hd hslo
  go_wp2_with fail
  go_loopw [9] (fun lv wr => RelC D A l.length c (p + 1) O LEN o w lv wr) (fun lv _ => (intOf lv).toNat)
  case atStart => exact ⟨0, by omega, by rw [← hLe]; go_num, ⟨_, by rw [show ((p + 1 : Nat) : Int) = (p : Int) + 1 by omega]; exact HD1, HO1⟩, hb1⟩
  case round =>
    obtain ⟨i, hi, rfl, ⟨vi, HDi, HOi⟩, hbi⟩ := hrel
    by_cases hlt : i < LEN
    · obtain ⟨Ai, ci, hvi, hsli, hati⟩ := HOi.form
      subst hvi
      rw [copyN_length] at hsli hati HDi HOi
      obtain ⟨gi, rfl, hgi, hgis⟩ := hati (by omega)
      have hcell := (hsli.at_ (by omega))
      obtain ⟨g', o', hg', hgB, hc⟩ := hcell
      cases hg'
      obtain ⟨q, hq⟩ : ∃ q, o.length + i - O = q := ⟨_, rfl⟩
      have hqi : ((o.length + i : Nat) : Int) - (O : Int) = (q : Int) := by omega
      have hql : q < (copyN o O i).length := by rw [copyN_length]; omega
      have hcq := hc q hql
      rw [Nat.zero_add] at hcq
      obtain ⟨b, hb⟩ : ∃ b, (copyN o O i)[q] = b := ⟨_, rfl⟩
      rw [hb] at hcq
      have hsn : copyN o O (i + 1) = copyN o O i ++ [b] := by
        rw [copyN_snoc, hq, List.getD_eq_getElem?_getD, List.getElem?_eq_getElem hql, hb]
        rfl
      have HSN := Lib.hid hsn
      have HQ := Lib.hid hq
      obtain ⟨M, hM⟩ : ∃ M, o.length + i = M := ⟨_, rfl⟩
      rw [hM] at HDi HOi hqi
      have k2 := cell_of_row wr D 2 _ 40 (0, 0) HDi.out
      have hDs : D < wr.heap.size := by omega
      have hqj : (0 : Int) ≤ (q : Int) := by omega
      have hqk : (q : Int) < (M : Int) := by omega
      have hw9 : IntKind.i64.wrap ((M : Int) - (O : Int)) = (q : Int) := by rw [hqi, IntKind.wrap_i64]; omega
      have hli : (0 : Int) < (LEN : Int) - (i : Int) := by omega
      have hlj : (LEN : Int) ≤ 11 := by omega
      have HOI := Lib.hid HOi
      have HM := Lib.hid hM
      clear hc hsli hati hb hq hM hsn hOi hOj hOk k2 HOi hNb h7 hqi
      have k2 := cell_of_row wr D 2 _ 40 (0, 0) HDi.out
      have f2 := frozen_of_row wr D 2 _ 40 HDi.out
      go_wp2_with fail
      have hbyt : (copyN o O i).length + 1 ≤ 140737488355328 := by rw [copyN_length]; omega
      have hnew : (copyN o O i).length + 1 = M + 1 := by rw [copyN_length, HM.out]
      have HBY := Lib.hid hbyt
      have HNW := Lib.hid hnew
      clear hbyt hnew
      obtain ⟨wq, hwq⟩ : ∃ wq, (wr.alloc (.cells #[.int .u8 b.toNat] 5 (0, 0))).drew = wq := ⟨_, rfl⟩
      have HDq : Hid (((wr.alloc (.cells #[.int .u8 b.toNat] 5 (0, 0))).drew).heap[D]? = some (.cells (rdA A l.length c ((p + 1 : Nat) : Int) (.slice (some ⟨gi, 0, none⟩) M ci) 0) 40 (0, 0))) := Lib.hid ((Below.heap_alloc wr _ D hDs).trans HDi.out)
      have HOq : Hid (Own ((wr.alloc (.cells #[.int .u8 b.toNat] 5 (0, 0))).drew) (D + 1) (.slice (some ⟨gi, 0, none⟩) M ci) (copyN o O i)) := Lib.hid (Own.drew (HOI.out.alloc _))
      have HSq : Hid (Sl ((wr.alloc (.cells #[.int .u8 b.toNat] 5 (0, 0))).drew) (wr.heap.size + 1) (some ⟨wr.heap.size, 0, none⟩) 1 1 [b]) := Lib.hid (Sl.drew (Sl.one wr b))
      have HBq : Hid (D + 1 ≤ ((wr.alloc (.cells #[.int .u8 b.toNat] 5 (0, 0))).drew).heap.size) := Lib.hid (by show D + 1 ≤ (wr.alloc _).heap.size; rw [show (wr.alloc (.cells #[.int .u8 b.toNat] 5 (0, 0))).heap.size = wr.heap.size + 1 from Array.size_push ..]; omega)
      clear hwq wq
      go_region_law (refine step_append_sl rfl (.tmp 54) (.tmp 68) rfl (D + 1) (.slice (some ⟨gi, 0, none⟩) M ci) (copyN o O i) [b] rfl HOq.out (wr.heap.size + 1) (some ⟨wr.heap.size, 0, none⟩) 1 1 rfl HSq.out HBY.out HBq.out (M + 1) (copyN o O i ++ [b]) HNW.out rfl ?_; intro A' c' w3 happ; have HD3 := App.row40 happ HDq; have k23 := cell_of_row w3 D 2 _ 40 (0, 0) HD3.out; have f23 := frozen_of_row w3 D 2 _ 40 HD3.out)
      all_goals
        have hb3 := happ.bel
        have ho3 := Lib.hid happ.own
        clear happ
        go_wp2_with fail
        go_roundw
        case rel => exact ⟨i + 1, by omega, by go_num, ⟨_, row40 HD3, by rw [HSN.out]; exact ho3.out.set40⟩, bel40 ((bel40d (hbi.alloc (by omega) _) 1).trans (hb3.mono (by omega))) _⟩
        case measure => simp [intOf]; omega
    · obtain rfl : i = LEN := by omega
      have hz : decide ((0 : Int) < (i : Int) - (i : Int)) = false := by simp
      have hz2 : (i : Int) - (i : Int) = 0 := by omega
      have HDH := Lib.hid HDi
      have HOH := Lib.hid HOi
      go_wp2_with fail
      go_ret
      exact ⟨rfl, ⟨vi, HDH.out, HOH.out⟩, hbi⟩
set_option maxRecDepth 100000 in
set_option maxHeartbeats 3200000 in
theorem cop_goodN (D : Nat) (A : Option Addr) (n c : Nat) (l : List UInt8) (p x f s O LEN : Nat) (o : List UInt8) (w : World) (hsl : Sl w D A n c l) (hr : RdSt w D A n c p o) (hn : n ≤ 2147483647) (hf : (f : Int) / 4 = x) (hx : x < 64) (hs1 : 1 < s) (hs4 : s ≤ 4)
    (hsp : p + s ≤ n) (hNe : Lib.leNat ((l.drop p).take s) = O) (hLe : x + 1 = LEN) (hO0 : 0 < O) (hOl : O ≤ o.length) (ho : o.length ≤ 200000) :
    Calls Tryd.prog 13 #[.pointer (some ⟨D, 0, none⟩), .int .i64 f, .int .i64 s] w fun e w' => e = .returned (.bool true) ∧ RdSt w' D A n c (p + s) (copyN o O LEN) ∧ Below D w w' := by
  obtain rfl := hsl.len
  have hm := hsl.most
  have hcc := hsl.cap
  obtain ⟨v, hd, hown⟩ := hr
  have KL := Lib.hid (little_good D A l.length c l p s v 0 w hsl hd hn (by omega) hs4 hsp)
  have HN := Lib.hid hNe
  have HO := Lib.hid hown
  have hs1i : ((s : Int) == 1) = false := by simp; omega
  have hs1j : ¬ s = 1 := by omega
  clear hown hsl hNe
  go_enter Tryd.func13, Tryd.ntmps13
  go_wp2_with fail
  refine KL.out.mono ?_
  rintro e w1 ⟨rfl, m, hw1⟩
  rw [HN.out]
  have HD1 : Hid (w1.heap[D]? = some (.cells (rdA A l.length c ((p : Int) + s) v 0) 40 (0, 0))) := by rw [hw1]; exact row40 (row40d hd)
  have hb1 : Below D w w1 := by rw [hw1]; exact bel40 (bel40d (Below.refl _ _) _) _
  have HO1 : Own w1 (D + 1) v o := by rw [hw1]; exact (HO.out.drewN _).set40
  obtain ⟨Ao, co, hv, hslo, _⟩ := HO1.form
  subst hv
  have k2 := cell_of_row w1 D 2 _ 40 (0, 0) HD1.out
  have hOj : decide ((o.length : Int) < (O : Int)) = false := by simp; omega
  have hOd : decide (o.length < O) = false := by simp; omega
  have hOk : ((O : Int) == 0) = false := by simp; omega
  have hxi : (x : Int) < 64 := by omega
  clear hw1 hd hslo
  go_wp2_with fail
  go_loopw [9] (fun lv wr => RelC D A l.length c (p + s) O LEN o w lv wr) (fun lv _ => (intOf lv).toNat)
  case atStart => exact ⟨0, by omega, by rw [← hLe]; go_num, ⟨_, by rw [show ((p + s : Nat) : Int) = (p : Int) + s by omega]; exact HD1, HO1⟩, hb1⟩
  case round =>
    obtain ⟨i, hi, rfl, ⟨vi, HDi, HOi⟩, hbi⟩ := hrel
    by_cases hlt : i < LEN
    · obtain ⟨Ai, ci, hvi, hsli, hati⟩ := HOi.form
      subst hvi
      rw [copyN_length] at hsli hati HDi HOi
      obtain ⟨gi, rfl, hgi, hgis⟩ := hati (by omega)
      have hcell := (hsli.at_ (by omega))
      obtain ⟨g', o', hg', hgB, hc⟩ := hcell
      cases hg'
      obtain ⟨q, hq⟩ : ∃ q, o.length + i - O = q := ⟨_, rfl⟩
      have hqi : ((o.length + i : Nat) : Int) - (O : Int) = (q : Int) := by omega
      have hql : q < (copyN o O i).length := by rw [copyN_length]; omega
      have hcq := hc q hql
      rw [Nat.zero_add] at hcq
      obtain ⟨b, hb⟩ : ∃ b, (copyN o O i)[q] = b := ⟨_, rfl⟩
      rw [hb] at hcq
      have hsn : copyN o O (i + 1) = copyN o O i ++ [b] := by
        rw [copyN_snoc, hq, List.getD_eq_getElem?_getD, List.getElem?_eq_getElem hql, hb]
        rfl
      have HSN := Lib.hid hsn
      have HQ := Lib.hid hq
      obtain ⟨M, hM⟩ : ∃ M, o.length + i = M := ⟨_, rfl⟩
      rw [hM] at HDi HOi hqi
      have k2 := cell_of_row wr D 2 _ 40 (0, 0) HDi.out
      have hDs : D < wr.heap.size := by omega
      have hqj : (0 : Int) ≤ (q : Int) := by omega
      have hqk : (q : Int) < (M : Int) := by omega
      have hw9 : IntKind.i64.wrap ((M : Int) - (O : Int)) = (q : Int) := by rw [hqi, IntKind.wrap_i64]; omega
      have hli : (0 : Int) < (LEN : Int) - (i : Int) := by omega
      have hlj : (LEN : Int) ≤ 64 := by omega
      have HOI := Lib.hid HOi
      have HM := Lib.hid hM
      clear hc hsli hati hb hq hM hsn hOj hOk k2 HOi hqi
      have k2 := cell_of_row wr D 2 _ 40 (0, 0) HDi.out
      have f2 := frozen_of_row wr D 2 _ 40 HDi.out
      go_wp2_with fail
      have hbyt : (copyN o O i).length + 1 ≤ 140737488355328 := by rw [copyN_length]; omega
      have hnew : (copyN o O i).length + 1 = M + 1 := by rw [copyN_length, HM.out]
      have HBY := Lib.hid hbyt
      have HNW := Lib.hid hnew
      clear hbyt hnew
      obtain ⟨wq, hwq⟩ : ∃ wq, (wr.alloc (.cells #[.int .u8 b.toNat] 5 (0, 0))).drew = wq := ⟨_, rfl⟩
      have HDq : Hid (((wr.alloc (.cells #[.int .u8 b.toNat] 5 (0, 0))).drew).heap[D]? = some (.cells (rdA A l.length c ((p + s : Nat) : Int) (.slice (some ⟨gi, 0, none⟩) M ci) 0) 40 (0, 0))) := Lib.hid ((Below.heap_alloc wr _ D hDs).trans HDi.out)
      have HOq : Hid (Own ((wr.alloc (.cells #[.int .u8 b.toNat] 5 (0, 0))).drew) (D + 1) (.slice (some ⟨gi, 0, none⟩) M ci) (copyN o O i)) := Lib.hid (Own.drew (HOI.out.alloc _))
      have HSq : Hid (Sl ((wr.alloc (.cells #[.int .u8 b.toNat] 5 (0, 0))).drew) (wr.heap.size + 1) (some ⟨wr.heap.size, 0, none⟩) 1 1 [b]) := Lib.hid (Sl.drew (Sl.one wr b))
      have HBq : Hid (D + 1 ≤ ((wr.alloc (.cells #[.int .u8 b.toNat] 5 (0, 0))).drew).heap.size) := Lib.hid (by show D + 1 ≤ (wr.alloc _).heap.size; rw [show (wr.alloc (.cells #[.int .u8 b.toNat] 5 (0, 0))).heap.size = wr.heap.size + 1 from Array.size_push ..]; omega)
      clear hwq wq
      go_region_law (refine step_append_sl rfl (.tmp 54) (.tmp 68) rfl (D + 1) (.slice (some ⟨gi, 0, none⟩) M ci) (copyN o O i) [b] rfl HOq.out (wr.heap.size + 1) (some ⟨wr.heap.size, 0, none⟩) 1 1 rfl HSq.out HBY.out HBq.out (M + 1) (copyN o O i ++ [b]) HNW.out rfl ?_; intro A' c' w3 happ; have HD3 := App.row40 happ HDq; have k23 := cell_of_row w3 D 2 _ 40 (0, 0) HD3.out; have f23 := frozen_of_row w3 D 2 _ 40 HD3.out)
      all_goals
        have hb3 := happ.bel
        have ho3 := Lib.hid happ.own
        clear happ
        go_wp2_with fail
        go_roundw
        case rel => exact ⟨i + 1, by omega, by go_num, ⟨_, row40 HD3, by rw [HSN.out]; exact ho3.out.set40⟩, bel40 ((bel40d (hbi.alloc (by omega) _) 1).trans (hb3.mono (by omega))) _⟩
        case measure => simp [intOf]; omega
    · obtain rfl : i = LEN := by omega
      have hz : decide ((0 : Int) < (i : Int) - (i : Int)) = false := by simp
      have hz2 : (i : Int) - (i : Int) = 0 := by omega
      have HDH := Lib.hid HDi
      have HOH := Lib.hid HOi
      go_wp2_with fail
      go_ret
      exact ⟨rfl, ⟨vi, HDH.out, HOH.out⟩, hbi⟩
end Go.Proofs.YthiklljhhnedkaaDoor
