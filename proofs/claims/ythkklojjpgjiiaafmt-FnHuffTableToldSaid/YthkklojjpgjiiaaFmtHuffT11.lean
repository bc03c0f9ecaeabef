/-
  spec.zWeights. Conditions: those of the theorem.
  The prefix code of weights, plain, and spec.zEntries; a struct with two slices that grow. Conditions: those of each.
  The statistics of weights, plain: how often each weight comes, the total, the starts; the class told by them. Plain lemmas; conditions: those of each.
  fse.readNCount: behind the loop. Conditions: those of the theorem.
-/
import Derived.Test.YthkklojjpgjiiaaFmtHuffT10
import Derived.Outline
import Derived.Deep.Cut
import Derived.Test.YthkklojjpgjiiaaFmtHuffT03
import Derived.Test.YthkklojjpgjiiaaFmtHuffT09
namespace Go.Proofs.YthkklojjpgjiiaaFmt
open Go.RowKit

/-- half a byte of a description that is written as it is -/
def nib (d : List UInt8) (i : Nat) : Nat := if i % 2 = 0 then (d.getD (1 + i / 2) 0).toNat / 16 else (d.getD (1 + i / 2) 0).toNat % 16
def halfs (d : List UInt8) (k : Nat) : List Int := (List.range k).map fun i => (nib d i : Int)
theorem halfs_succ (d : List UInt8) (k : Nat) : halfs d (k + 1) = halfs d k ++ [(nib d k : Int)] := by simp [halfs, List.range_succ]
theorem halfs_length (d : List UInt8) (k : Nat) : (halfs d k).length = k := by simp [halfs]
def headB (d : List UInt8) : Nat := (d.getD 0 0).toNat
/-- the weights of a description, and how many bytes it has -/
inductive WtR (d : List UInt8) : WRes → Nat → Prop
  | empty (h : d = []) : WtR d .refused 0
  | half {m : Nat} (h : d ≠ []) (h1 : headB d = m + 127) (h0 : 1 ≤ m) (h2 : 1 + (m + 1) / 2 ≤ d.length) : WtR d (.good (halfs d m)) (1 + (m + 1) / 2)
  | cut {m : Nat} (h : d ≠ []) (h1 : headB d = m + 127) (h0 : 1 ≤ m) (h2 : d.length < 1 + (m + 1) / 2) : WtR d .refused 0
  | short {h : Nat} (hd : d ≠ []) (h1 : headB d = h) (h0 : h < 128) (h2 : d.length < 1 + h) : WtR d .refused 0
  | enc {h : Nat} {R : WRes} (hd : d ≠ []) (h1 : headB d = h) (h0 : h < 128) (h2 : 1 + h ≤ d.length) (hr : EncR ((d.take (1 + h)).drop 1) R) : WtR d R (1 + h)
def WtPost (w : World) (d : List UInt8) (e : Ending) (w' : World) : Prop :=
  ∃ R size, WtR d R size ∧ Below w.heap.size w w' ∧
    match R with
    | .open_ => ∃ v s, e = .returned (.tuple #[v, s, .int .i64 2])
    | .refused => ∃ v s, e = .returned (.tuple #[v, s, .int .i64 1])
    | .good o => ∃ v, e = .returned (.tuple #[v, .int .i64 (size : Nat), .int .i64 0]) ∧ OwnI w' w.heap.size v o

def RelHf (w : World) (m : Nat) (d : List UInt8) (ov iv : Value) (wr : World) : Prop := ∃ i : Nat, i ≤ m ∧ iv = .int .i64 (i : Nat) ∧ OwnI wr w.heap.size ov (halfs d i) ∧ Below w.heap.size w wr
set_option maxRecDepth 100000 in
set_option maxHeartbeats 1600000 in
theorem zWeights_any {w : World} {A : Option Addr} {n c : Nat} {d : List UInt8} (hs : Sl w w.heap.size A n c d) (hn : n ≤ 50000) :
    Calls Tryf.prog 14 #[.slice A n c] w (WtPost w d) := by
  have HS := Lib.hid hs
  have HN := Lib.hid hn
  have hnl := hs.len
  have HNL := Lib.hid hnl
  have hcm := hs.most
  have hcc := hs.cap
  by_cases hn0 : n = 0
  · subst hn0
    clear hs hnl hn
    go_enter Tryf.func14, Tryf.ntmps14
    go_wp2_with fail
    go_ret3
    exact ⟨.refused, 0, .empty (List.length_eq_zero_iff.1 HNL.out), Below.refl _ _, _, _, rfl⟩
  · have hnd : ((n : Int) == 0) = false := by simpa using hn0
    obtain ⟨g, o, rfl, hgl, hc⟩ := hs.at_ (by omega)
    have hne : d ≠ [] := by intro h; rw [h] at hnl; simp at hnl; omega
    have k0 := hc 0 (by omega)
    rw [Nat.add_zero] at k0
    obtain ⟨h, hh⟩ : ∃ h, headB d = h := ⟨_, rfl⟩
    have hk0 : w.cell? ⟨g, o, none⟩ = some (.int .u8 (h : Nat)) := by
      rw [k0, ← hh]
      unfold headB
      rw [List.getD_eq_getElem?_getD, List.getElem?_eq_getElem (by omega), Option.getD_some]
    have hh256 : h < 256 := by rw [← hh]; exact UInt8.toNat_lt _
    have HC := Lib.hid hc
    have HH := Lib.hid hh
    have HNE := Lib.hid hne
    have hn1 : (0 : Int) < (n : Int) := by omega
    clear hs hnl hc k0 hh hne
    by_cases hh0 : 128 ≤ h
    · obtain ⟨m, hm⟩ : ∃ m, h = m + 127 := ⟨h - 127, by omega⟩
      subst hm
      obtain ⟨sz, hsz⟩ : ∃ sz, (m + 1) / 2 = sz := ⟨_, rfl⟩
      have hsi : ((m : Int) + 1) / 2 = (sz : Int) := by omega
      have hmm : 1 ≤ m := by omega
      by_cases hsn : n < 1 + sz
      · clear hn
        have HSN := Lib.hid hsn
        have HSZ := Lib.hid hsz
        have hd : decide ((n : Int) < 1 + (sz : Int)) = true := decide_eq_true (by omega)
        clear hsn hsz
        go_enter Tryf.func14, Tryf.ntmps14
        go_wp2_with fail
        go_ret3
        exact ⟨.refused, 0, .cut HNE.out HH.out hmm (by rw [HSZ.out, HNL.out]; exact HSN.out), Below.refl _ _, _, _, rfl⟩
      · have HSN := Lib.hid hsn
        have HSZ := Lib.hid hsz
        have hd : decide ((n : Int) < 1 + (sz : Int)) = false := decide_eq_false (by omega)
        have hd128 : decide ((128 : Int) ≤ (m : Int) + 127) = true := decide_eq_true (by omega)
        clear hsn hsz hn
        go_enter Tryf.func14, Tryf.ntmps14
        go_wp2_with fail
        have HO0 : Hid (OwnI (w.alloc (.cells #[] 3)) w.heap.size (.slice (some ⟨w.heap.size, 0, none⟩) 0 0) (halfs d 0)) := Lib.hid (OwnI.lit w (Nat.le_refl _))
        have HMM := Lib.hid hmm
        clear hsi hh0 hmm
        go_loopw [8, 34] (RelHf w m d) (fun _ iv _ => m - (intOf iv).toNat)
        case atStart => exact ⟨0, Nat.zero_le _, rfl, HO0.out, below_new _ _⟩
        case round =>
          obtain ⟨i, hi, rfl, hO, hB⟩ := hrel
          have HO := Lib.hid hO
          have HB := Lib.hid hB
          clear hO hB
          by_cases him : i < m
          · obtain ⟨j, hj⟩ : ∃ j, i / 2 = j := ⟨_, rfl⟩
            have hji : (i : Int) / 2 = (j : Int) := by omega
            have hjn : 1 + j < n := by have := HSN.out; have := HSZ.out; omega
            have hjni : (1 : Int) + (j : Int) < (n : Int) := by omega
            obtain ⟨v, hv⟩ : ∃ v, (d.getD (1 + j) 0).toNat = v := ⟨_, rfl⟩
            have hkj : wr.cell? ⟨g, o + (1 + j), none⟩ = some (.int .u8 (v : Nat)) := by
              rw [HB.out.cell (p := ⟨g, o + (1 + j), none⟩) hgl, HC.out (1 + j) (by rw [HNL.out]; exact hjn), ← hv, List.getD_eq_getElem?_getD, List.getElem?_eq_getElem (by rw [HNL.out]; exact hjn), Option.getD_some]
            have hv256 : v < 256 := by rw [← hv]; exact UInt8.toNat_lt _
            have HV := Lib.hid hv
            have HJ := Lib.hid hj
            have hsz3 : w.heap.size ≤ wr.heap.size := HB.out.size
            clear hv hj
            rcases (show i % 2 = 0 ∨ i % 2 = 1 by omega) with h2 | h2
            · have h2i : (i : Int) % 2 = 0 := by omega
              have hnib : nib d i = v / 16 := by unfold nib; rw [if_pos h2, HJ.out, HV.out]
              have HNB := Lib.hid hnib
              clear h2 hnib
              go_upto_region 15 with (fail)
              have HOa := Lib.hid (HO.out.alloc (.cells #[.int .i64 ((v : Int) / 16)] 3))
              have hca : Hid ((wr.alloc (.cells #[.int .i64 ((v : Int) / 16)] 3)).cell? ⟨wr.heap.size, 0, none⟩ = some (.int .i64 ((v : Int) / 16))) := Lib.hid (cell_of_row _ _ 0 _ _ (0, 0) (heap_alloc_new _ _))
              iterate 13 go_step
              refine wpList_append_i _ rfl (.tmp 47) (.tmp 50) rfl w.heap.size _ (halfs d i) rfl HOa.out wr.heap.size rfl ((v : Int) / 16) hca.out (by rw [halfs_length]; omega) (by simp; omega) ?_
              intro v4 w4 ho4 hb4
              have HO4 := Lib.hid ho4
              have HB4 := Lib.hid hb4
              clear ho4 hb4
              go_wp2_with fail
              refine ⟨⟨i + 1, by omega, by go_num, ?_, HB.out.trans (((below_new wr _).mono hsz3).trans HB4.out)⟩, by simp [intOf]; omega⟩
              rw [halfs_succ, HNB.out]
              have e : ((v : Int) / 16) = ((v / 16 : Nat) : Int) := by omega
              rw [← e]
              exact HO4.out
            · have h2i : (i : Int) % 2 = 1 := by omega
              have hnib : nib d i = v % 16 := by unfold nib; rw [if_neg (by omega), HJ.out, HV.out]
              have HNB := Lib.hid hnib
              clear h2 hnib
              go_upto_region 16 with (fail)
              have HOa := Lib.hid (HO.out.alloc (.cells #[.int .i64 (bits BinOp.and IntKind.i64 (v : Int) 15)] 3))
              have hca : Hid ((wr.alloc (.cells #[.int .i64 (bits BinOp.and IntKind.i64 (v : Int) 15)] 3)).cell? ⟨wr.heap.size, 0, none⟩ = some (.int .i64 (bits BinOp.and IntKind.i64 (v : Int) 15))) := Lib.hid (cell_of_row _ _ 0 _ _ (0, 0) (heap_alloc_new _ _))
              iterate 13 go_step
              refine wpList_append_i _ rfl (.tmp 52) (.tmp 55) rfl w.heap.size _ (halfs d i) rfl HOa.out wr.heap.size rfl (bits BinOp.and IntKind.i64 (v : Int) 15) hca.out (by rw [halfs_length]; omega) (by simp; omega) ?_
              intro v4 w4 ho4 hb4
              have HO4 := Lib.hid ho4
              have HB4 := Lib.hid hb4
              clear ho4 hb4
              go_wp2_with fail
              refine ⟨⟨i + 1, by omega, by go_num, ?_, HB.out.trans (((below_new wr _).mono hsz3).trans HB4.out)⟩, by simp [intOf]; omega⟩
              rw [halfs_succ, HNB.out]
              have e : (bits BinOp.and IntKind.i64 (v : Int) 15) = ((v % 16 : Nat) : Int) := low_bits v 4 (by omega) (by omega)
              rw [← e]
              exact HO4.out
          · obtain rfl : m = i := by omega
            go_wp2_with fail
            go_ret3
            refine ⟨.good (halfs d m), 1 + (m + 1) / 2, .half HNE.out HH.out HMM.out (by rw [HSZ.out, HNL.out]; have := HSN.out; omega), HB.out, _, ?_, HO.out⟩
            rw [HSZ.out]
            exact rfl
    · obtain ⟨A4, hA4⟩ : ∃ A4, (if c = 1 then some (⟨g, o, none⟩ : Addr) else some ⟨g, o + 1, none⟩) = A4 := ⟨_, rfl⟩
      by_cases hsn : n < 1 + h
      · have hd : decide ((n : Int) < 1 + (h : Int)) = true := decide_eq_true (by omega)
        have HSN := Lib.hid hsn
        have hh0i : decide ((128 : Int) ≤ (h : Int)) = false := decide_eq_false (by omega)
        have HH0 := Lib.hid hh0
        clear hsn hn hh0 hA4
        go_enter Tryf.func14, Tryf.ntmps14
        go_wp2_with fail
        go_ret3
        exact ⟨.refused, 0, .short HNE.out HH.out (by have := HH0.out; omega) (by rw [HNL.out]; exact HSN.out), Below.refl _ _, _, _, rfl⟩
      · have hd : decide ((n : Int) < 1 + (h : Int)) = false := decide_eq_false (by omega)
        have hcut := HS.out.cut A4 (i := 1) (j := 1 + h) (c' := c - 1) (by omega) (by omega) (by omega) (by omega) (fun h1 => by rw [← hA4, if_neg (by omega)]; simp [add_some])
        have KE := Lib.hid (zEncoded_any hcut (by omega))
        have HSN := Lib.hid hsn
        have hh0i : decide ((128 : Int) ≤ (h : Int)) = false := decide_eq_false (by omega)
        have HH0 := Lib.hid hh0
        have ehh : 1 + h - 1 = h := by omega
        have hhn : 1 + h ≤ n := by omega
        rw [ehh] at KE
        clear hsn hn hh0 hcut ehh
        go_enter Tryf.func14, Tryf.ntmps14
        go_wp2_with fail
        refine KE.out.mono ?_
        rintro e w2 ⟨R, hR, hb, hres⟩
        have hWt : WtR d R (1 + h) := .enc HNE.out HH.out (by have := HH0.out; omega) (by rw [HNL.out]; exact hhn) hR
        have HWT := Lib.hid hWt
        have HB2 := Lib.hid hb
        clear hR hb hWt
        rcases R with _ | _ | ol
        · obtain ⟨v2, rfl⟩ := hres
          go_wp2_with fail
          go_ret3
          exact ⟨.open_, _, HWT.out, HB2.out, _, _, rfl⟩
        · obtain rfl := hres
          go_wp2_with fail
          go_ret3
          exact ⟨.refused, _, HWT.out, HB2.out, _, _, rfl⟩
        · obtain ⟨v2, rfl, ho2⟩ := hres
          have HO2 := Lib.hid ho2
          clear ho2
          go_wp2_with fail
          go_ret3
          exact ⟨.good ol, _, HWT.out, HB2.out, _, rfl, HO2.out⟩
end Go.Proofs.YthkklojjpgjiiaaFmt
namespace Go.Proofs.YthkklojjpgjiiaaFmt
open Go.RowKit

def sumW : List Int → Nat
  | [] => 0
  | x :: l => (if 0 < x then 2 ^ (x - 1).toNat else 0) + sumW l
def onesW (l : List Int) : Nat := l.countP (· == 1)
/-- the class of a code: 0 good, 1 refused, 2 open -/
def clsF (ws : List Int) : Nat :=
  if ∃ x ∈ ws, 11 < x then 1
  else if sumW ws = 0 then 1
  else if 11 < (sumW ws).log2 + 1 ∨ 2 ^ ((sumW ws).log2 + 1) - sumW ws ≠ 2 ^ (2 ^ ((sumW ws).log2 + 1) - sumW ws).log2 then 1
  else if onesW ws + (if 2 ^ ((sumW ws).log2 + 1) - sumW ws = 1 then 1 else 0) = 0 then 2 else 0
theorem sumW_append : ∀ (a b : List Int), sumW (a ++ b) = sumW a + sumW b
  | [], b => by simp [sumW]
  | x :: a, b => by simp only [List.cons_append, sumW, sumW_append a b]; omega
theorem onesW_append (a b : List Int) : onesW (a ++ b) = onesW a + onesW b := by simp [onesW]
theorem take_snocI (l : List Int) (k : Nat) (h : k < l.length) : l.take (k + 1) = l.take k ++ [l.getD k 0] := by
  rw [List.take_succ_eq_append_getElem h, List.getD_eq_getElem?_getD, List.getElem?_eq_getElem h, Option.getD_some]
theorem sumW_le : ∀ (l : List Int), (∀ x ∈ l, x ≤ 11) → sumW l ≤ 1024 * l.length
  | [], _ => by simp [sumW]
  | x :: l, h => by
    have ih := sumW_le l (fun y hy => h y (by simp [hy]))
    have hx := h x (by simp)
    have : (if 0 < x then 2 ^ (x - 1).toNat else 0) ≤ 1024 := by
      split
      · exact Nat.le_trans (Nat.pow_le_pow_right (by omega) (show (x - 1).toNat ≤ 10 by omega)) (by decide)
      · omega
    simp only [sumW, List.length_cons]
    omega

set_option maxHeartbeats 800000 in
theorem zEntries_any (own wt : Nat) (w : World) (h0 : 1 ≤ wt) (h1 : wt ≤ 11) (oi wi : Int) (hoi : oi = own) (hwi : wi = wt) :
    Calls Tryf.prog 22 #[.int .i64 oi, .int .i64 wi] w fun e w' => (∃ k : Nat, k ≤ 1024 ∧ e = .returned (.int .i64 (k : Nat))) ∧ w = w' := by
  by_cases he : oi = wi
  · subst he
    have e1 : wrap64 (oi - 1) = ((wt - 1 : Nat) : Int) := by unfold wrap64; omega
    rcases (show wt = 1 ∨ wt = 2 ∨ wt = 3 ∨ wt = 4 ∨ wt = 5 ∨ wt = 6 ∨ wt = 7 ∨ wt = 8 ∨ wt = 9 ∨ wt = 10 ∨ wt = 11 by omega) with rfl | rfl | rfl | rfl | rfl | rfl | rfl | rfl | rfl | rfl | rfl
    all_goals
      subst hwi
      clear hoi e1
      go_enter Tryf.func22, Tryf.ntmps22
      go_wp2_with fail
      go_ret
      exact ⟨⟨_, by first | exact Nat.le_refl _ | decide, rfl⟩, rfl⟩
  · have hne : (oi == wi) = false := beq_eq_false_iff_ne.2 he
    have hne2 : (oi != wi) = true := by simpa using he
    clear he hoi hwi
    go_enter Tryf.func22, Tryf.ntmps22
    go_wp2_with fail
    go_ret
    exact ⟨⟨0, by omega, rfl⟩, rfl⟩

/-- a struct with a number and two slices that grow -/
def CodeS (D : Nat) (most : Int) (wD : World) (sv bv : Value) (sl bl : List Int) (wr : World) : Prop :=
  wr.heap[D]? = some (.cells #[.int .i64 most, sv, bv] 31 (0, 0)) ∧ OwnI wr (D + 1) sv sl ∧ OwnI wr (D + 1) bv bl ∧ (∀ k, sv.ownBlock = some k → bv.ownBlock ≠ some k) ∧ Below D wD wr ∧ D < wr.heap.size
section
variable {D : Nat} {most : Int} {wD wr w' : World} {sv bv sv' : Value} {sl bl sl' : List Int}
theorem CodeS.alloc (h : CodeS D most wD sv bv sl bl wr) (o : Obj) : CodeS D most wD sv bv sl bl (wr.alloc o) :=
  ⟨(Below.heap_alloc wr o D h.2.2.2.2.2).trans h.1, h.2.1.alloc o, h.2.2.1.alloc o, h.2.2.2.1, h.2.2.2.2.1.trans ((below_new wr o).mono (Nat.le_of_lt h.2.2.2.2.2)), by have := h.2.2.2.2.2; simp; omega⟩
theorem CodeS.app1 (h : CodeS D most wD sv bv sl bl wr) (ho : OwnI w' (D + 1) sv' sl') (hg : wr.grownBy w' sv.ownBlock) (hv : sv'.ownBlock = sv.ownBlock ∨ sv'.ownBlock = some wr.heap.size) : CodeS D most wD sv' bv sl' bl (w'.setCell ⟨D, 1, none⟩ sv') := by
  obtain ⟨h1, h2, h3, h4, h5, h6⟩ := h
  have hD : w'.heap[D]? = wr.heap[D]? := hg.block D h6 (fun e => by have := (h2.block D e.symm).1; omega)
  have hb : OwnI w' (D + 1) bv bl := World.ownsRow.kept h3 hg (by
    cases hbv : bv.ownBlock with
    | none => exact .inl rfl
    | some k => right; intro e; exact h4 k e.symm hbv)
  have hs : ∀ {v : Value} {l : List Int}, OwnI w' (D + 1) v l → OwnI (w'.setCell ⟨D, 1, none⟩ sv') (D + 1) v l := fun {v l} hh =>
    OwnI.but hh (g := D) (by omega) rfl rfl rfl (by simp) (fun k hk _ => setCell_heap _ hk)
  refine ⟨by simp [World.setCell, Array.getElem?_modify, hD, h1], hs ho, hs hb, ?_, ?_, by have := hg.size; simp; omega⟩
  · intro k e e2
    rcases hv with hv | hv
    · exact h4 k (by rw [← hv]; exact e) e2
    · rw [hv] at e; cases e; have := (h3.block _ e2).2; omega
  · exact (h5.trans ⟨hg.os, hg.tape, hg.output, hg.size, fun k hk => hg.block k (by omega) (fun e => by have := (h2.block k e.symm).1; omega)⟩).setCell (Nat.le_refl _) _
theorem CodeS.app2 (h : CodeS D most wD bv sv bl sl wr) (ho : OwnI w' (D + 1) sv' sl') (hg : wr.grownBy w' sv.ownBlock) (hv : sv'.ownBlock = sv.ownBlock ∨ sv'.ownBlock = some wr.heap.size) : CodeS D most wD bv sv' bl sl' (w'.setCell ⟨D, 2, none⟩ sv') := by
  obtain ⟨h1, h3, h2, h4, h5, h6⟩ := h
  have hD : w'.heap[D]? = wr.heap[D]? := hg.block D h6 (fun e => by have := (h2.block D e.symm).1; omega)
  have hb : OwnI w' (D + 1) bv bl := World.ownsRow.kept h3 hg (by
    cases hbv : bv.ownBlock with
    | none => exact .inl rfl
    | some k => right; intro e; exact h4 k hbv e.symm)
  have hs : ∀ {v : Value} {l : List Int}, OwnI w' (D + 1) v l → OwnI (w'.setCell ⟨D, 2, none⟩ sv') (D + 1) v l := fun {v l} hh =>
    OwnI.but hh (g := D) (by omega) rfl rfl rfl (by simp) (fun k hk _ => setCell_heap _ hk)
  refine ⟨by simp [World.setCell, Array.getElem?_modify, hD, h1], hs hb, hs ho, ?_, ?_, by have := hg.size; simp; omega⟩
  · intro k e e2
    rcases hv with hv | hv
    · exact h4 k e (by rw [← hv]; exact e2)
    · rw [hv] at e2; cases e2; have := (h3.block _ e).2; omega
  · exact (h5.trans ⟨hg.os, hg.tape, hg.output, hg.size, fun k hk => hg.block k (by omega) (fun e => by have := (h2.block k e.symm).1; omega)⟩).setCell (Nat.le_refl _) _
end
/-- a slice of numbers appended as a whole -/
theorem wpList_append_is (w : World) {ops : Array Oper} {rest : List Oper} {o : Oper} {a : Act} {Q : Exit → Act → World → Prop} (hgd : o.guard = none) (s x : Operand)
    (ho : o.op = .call { callee := .builtin .append, args := #[s, x], argTypes := #[29, 29] })
    (base : Nat) (v : Value) (l : List Int) (hs : a.eval s = v) (hown : OwnI w base v l) (g m c : Nat) (hx : a.eval x = .slice (some ⟨g, 0, none⟩) m c) (l2 : List Int) (hm : l2.length = m) (hc : ∀ k, k < m → w.cell? ⟨g, k, none⟩ = some (.int .i64 (l2.getD k 0)))
    (hl : l.length + m ≤ 100000000) (hbase : base ≤ w.heap.size)
    (h : ∀ v' w', OwnI w' base v' (l ++ l2) → Below base w w' → wpList Tryf.prog ops Q rest (a.put o.dst v') w') : wpList Tryf.prog ops Q (o :: rest) a w := by
  obtain ⟨i, hi, hz, hsz, hby⟩ := info_parts info_int
  refine wpList_append_own w hgd s x 29 ho base 3 i (.int .i64 0) 1 8 Tryf.underlying29 hi hz hsz hby rfl (by decide) v l.length (l.map (Value.int .i64)) hs hown ⟨g, 0, none⟩ m c (l2.map (Value.int .i64)) hx (by simp [hm]) ?_ ?_ ?_ ?_ hbase ?_
  · intro j u hj
    rw [List.getElem?_map, Option.map_eq_some_iff] at hj
    obtain ⟨y, hy, rfl⟩ := hj
    have hjl := (List.getElem?_eq_some_iff.1 hy).1
    rw [add_some, Nat.zero_add, hc j (by omega), List.getD_eq_getElem?_getD, hy, Option.getD_some]
  · intro u hu
    obtain ⟨y, _, rfl⟩ := List.mem_map.1 hu
    rfl
  · unfold maxLen; omega
  · omega
  · intro v' w' h2 h3 _
    refine h v' w' ?_ ⟨h3.os, h3.tape, h3.output, h3.size, fun k hk => h3.block k (by omega) (fun e => by have := (hown.block k e.symm).1; omega)⟩
    unfold OwnI
    rw [List.length_append, List.map_append, hm]
    exact h2
end Go.Proofs.YthkklojjpgjiiaaFmt
namespace Go.Proofs.YthkklojjpgjiiaaFmt
open Go.RowKit

theorem cnt_congr {f g : Nat → Nat} (p i : Nat) (h : ∀ k, k < p → f k = g k) : cnt f p i = cnt g p i := by
  induction p with
  | zero => rfl
  | succ p ih => rw [cnt_succ, cnt_succ, ih fun k hk => h k (by omega), h p (by omega)]
theorem cnt_none {f : Nat → Nat} (p i : Nat) : cnt f p i = 0 ↔ ∀ k, k < p → f k ≠ i := by
  induction p with
  | zero => simp [cnt]
  | succ p ih =>
    rw [cnt_succ]
    constructor
    · intro h k hk
      have h1 : cnt f p i = 0 := by omega
      rcases (show k < p ∨ k = p by omega) with hlt | rfl
      · exact ih.1 h1 k hlt
      · intro e; rw [if_pos e] at h; omega
    · intro h
      rw [ih.2 fun k hk => h k (by omega), if_neg (h p (by omega))]
theorem cnt_bound (f : Nat → Nat) (p i : Nat) : cnt f p i ≤ p := by
  induction p with
  | zero => simp [cnt]
  | succ p ih => rw [cnt_succ]; split <;> omega
/-- the total up to weight k -/
def pS (c : Nat → Nat) : Nat → Nat
  | 0 => 0
  | k + 1 => pS c k + c (k + 1) * 2 ^ k
theorem pS_mono (c : Nat → Nat) {a b : Nat} (h : a ≤ b) : pS c a ≤ pS c b := by
  induction b with
  | zero => rw [show a = 0 by omega]; exact Nat.le_refl _
  | succ b ih =>
    rcases (show a ≤ b ∨ a = b + 1 by omega) with h1 | rfl
    · exact Nat.le_trans (ih h1) (by simp only [pS]; omega)
    · exact Nat.le_refl _
theorem pS_congr {c d : Nat → Nat} (k : Nat) (h : ∀ i, 1 ≤ i → i ≤ k → c i = d i) : pS c k = pS d k := by
  induction k with
  | zero => rfl
  | succ k ih => simp only [pS]; rw [ih fun i h1 h2 => h i h1 (by omega), h (k + 1) (by omega) (Nat.le_refl _)]
theorem pS_one (c : Nat → Nat) (w k : Nat) (hw : 1 ≤ w) : pS (fun i => c i + (if w = i then 1 else 0)) k = pS c k + (if w ≤ k then 2 ^ (w - 1) else 0) := by
  induction k with
  | zero => simp only [pS]; rw [if_neg (by omega)]
  | succ k ih =>
    simp only [pS]
    rw [ih]
    by_cases e : w = k + 1
    · subst e
      rw [if_pos rfl, if_neg (by omega), if_pos (Nat.le_refl _), Nat.add_mul]
      simp
      omega
    · rw [if_neg e]
      by_cases h2 : w ≤ k
      · rw [if_pos h2, if_pos (show w ≤ k + 1 by omega)]; simp; omega
      · rw [if_neg h2, if_neg (show ¬ w ≤ k + 1 by omega)]; simp
theorem pS_zero (k : Nat) : pS (fun _ => 0) k = 0 := by
  induction k with
  | zero => rfl
  | succ k ih => simp [pS, ih]
theorem pS_step (f : Nat → Nat) (p K : Nat) : pS (cnt f (p + 1)) K = pS (cnt f p) K + (if 1 ≤ f p ∧ f p ≤ K then 2 ^ (f p - 1) else 0) := by
  by_cases h1 : 1 ≤ f p
  · have := pS_one (cnt f p) (f p) K h1
    rw [show (fun i => cnt f p i + (if f p = i then 1 else 0)) = cnt f (p + 1) from funext fun i => (cnt_succ f p i).symm] at this
    rw [this]
    by_cases h2 : f p ≤ K
    · rw [if_pos h2, if_pos ⟨h1, h2⟩]
    · rw [if_neg h2, if_neg (fun h => h2 h.2)]
  · rw [if_neg (fun h => h1 h.1), Nat.add_zero]
    exact pS_congr K fun i hi _ => by rw [cnt_succ, if_neg (by omega), Nat.add_zero]
/-- no more than 2 to the K for each weight -/
theorem pS_bound (f : Nat → Nat) (p K : Nat) : pS (cnt f p) K ≤ p * 2 ^ K := by
  induction p with
  | zero => rw [show cnt f 0 = (fun _ => 0) from rfl, pS_zero]; exact Nat.zero_le _
  | succ p ih =>
    rw [pS_step, Nat.add_mul, Nat.one_mul]
    have : (if 1 ≤ f p ∧ f p ≤ K then 2 ^ (f p - 1) else 0) ≤ 2 ^ K := by
      split
      · exact Nat.pow_le_pow_right (by omega) (by omega)
      · exact Nat.zero_le _
    omega
/-- the weights as numbers -/
def wvF (ws : List Int) : Nat → Nat := fun k => (ws.getD k 0).toNat
section
variable {ws : List Int} (h0 : ∀ x ∈ ws, 0 ≤ x)
theorem wv_get (h0 : ∀ x ∈ ws, 0 ≤ x) (k : Nat) : ws.getD k 0 = ((wvF ws k : Nat) : Int) := by
  unfold wvF
  rw [List.getD_eq_getElem?_getD]
  by_cases hk : k < ws.length
  · rw [List.getElem?_eq_getElem hk]
    have := h0 _ (List.getElem_mem hk)
    simp only [Option.getD_some]
    omega
  · rw [List.getElem?_eq_none (by omega)]; rfl
theorem sumW_take (h0 : ∀ x ∈ ws, 0 ≤ x) (p : Nat) (hp : p ≤ ws.length) (K : Nat) (hK : ∀ k, k < p → wvF ws k ≤ K) : sumW (ws.take p) = pS (cnt (wvF ws) p) K := by
  induction p with
  | zero => rw [show cnt (wvF ws) 0 = (fun _ => 0) from rfl, pS_zero]; rfl
  | succ p ih =>
    rw [take_snocI _ _ (by omega), sumW_append, ih (by omega) (fun k hk => hK k (by omega)), pS_step, wv_get h0 p]
    have := hK p (by omega)
    simp only [sumW, Nat.add_zero]
    by_cases e : 1 ≤ wvF ws p
    · rw [if_pos (show (0 : Int) < (wvF ws p : Nat) by omega), if_pos (show 1 ≤ wvF ws p ∧ wvF ws p ≤ K from ⟨e, this⟩)]
      congr 2
      omega
    · rw [if_neg (show ¬ (0 : Int) < (wvF ws p : Nat) by omega), if_neg (show ¬ (1 ≤ wvF ws p ∧ wvF ws p ≤ K) from fun h => e h.1)]
theorem onesW_take (h0 : ∀ x ∈ ws, 0 ≤ x) (p : Nat) (hp : p ≤ ws.length) : onesW (ws.take p) = cnt (wvF ws) p 1 := by
  induction p with
  | zero => rfl
  | succ p ih =>
    rw [take_snocI _ _ (by omega), onesW_append, ih (by omega), cnt_succ, wv_get h0 p]
    congr 1
    unfold onesW
    simp only [List.countP_singleton]
    by_cases e : wvF ws p = 1
    · rw [if_pos e, e]; rfl
    · rw [if_neg e, if_neg]
      intro h
      have := eq_of_beq h
      omega
end
/-- the count by the low four bits -/
def wfF (ws : List Int) : Nat → Nat := fun k => wvF ws k % 16
section
variable {ws : List Int} {m T L K : Nat}
theorem bad_iff : (∃ x ∈ ws, 11 < x) ↔ ∃ k, k < ws.length ∧ 11 < wvF ws k := by
  constructor
  · rintro ⟨x, hx, h⟩
    obtain ⟨k, hk, rfl⟩ := List.getElem_of_mem hx
    refine ⟨k, hk, ?_⟩
    unfold wvF
    rw [List.getD_eq_getElem?_getD, List.getElem?_eq_getElem hk]
    simp only [Option.getD_some]
    omega
  · rintro ⟨k, hk, h⟩
    refine ⟨ws[k], List.getElem_mem hk, ?_⟩
    unfold wvF at h
    rw [List.getD_eq_getElem?_getD, List.getElem?_eq_getElem hk] at h
    simp only [Option.getD_some] at h
    omega
theorem tot_eq (h0 : ∀ x ∈ ws, 0 ≤ x) (hm : ws.length = m) (hb : ∀ k, k < m → wvF ws k ≤ 11) : sumW ws = pS (cnt (wfF ws) m) 15 := by
  have h := sumW_take h0 m (by omega) 15 (fun k hk => by have := hb k hk; omega)
  rw [← hm, List.take_length] at h
  rw [h, ← hm]
  exact pS_congr 15 fun i _ _ => cnt_congr _ _ fun k hk => by unfold wfF; have := hb k (by omega); omega
theorem ones_eq (h0 : ∀ x ∈ ws, 0 ≤ x) (hm : ws.length = m) (hb : ∀ k, k < m → wvF ws k ≤ 11) : onesW ws = cnt (wfF ws) m 1 := by
  have h := onesW_take h0 m (by omega)
  rw [← hm, List.take_length] at h
  rw [h, ← hm]
  exact cnt_congr _ _ fun k hk => by unfold wfF; have := hb k (by omega); omega
theorem cls_bad (hm : ws.length = m) (hb : ∃ k, k < m ∧ 11 < wvF ws k) : clsF ws = 1 := by
  unfold clsF
  rw [if_pos (bad_iff.2 (by rw [hm]; exact hb))]
theorem cls_rest (h0 : ∀ x ∈ ws, 0 ≤ x) (hm : ws.length = m) (hb : ∀ k, k < m → wvF ws k ≤ 11) (hT : pS (cnt (wfF ws) m) 15 = T) :
    clsF ws = if T = 0 then 1 else if 11 < T.log2 + 1 ∨ 2 ^ (T.log2 + 1) - T ≠ 2 ^ (2 ^ (T.log2 + 1) - T).log2 then 1 else if cnt (wfF ws) m 1 + (if 2 ^ (T.log2 + 1) - T = 1 then 1 else 0) = 0 then 2 else 0 := by
  have h1 : ¬ ∃ x ∈ ws, 11 < x := by
    rw [bad_iff, hm]
    rintro ⟨k, hk, h⟩
    have := hb k hk
    omega
  unfold clsF
  rw [if_neg h1, tot_eq h0 hm hb, hT, ones_eq h0 hm hb]
/-- the number of weights 1 is even with the total -/
theorem ones_par (c : Nat → Nat) (k : Nat) : pS c (k + 1) % 2 = c 1 % 2 := by
  induction k with
  | zero => simp [pS]
  | succ k ih =>
    rw [show pS c (k + 1 + 1) = pS c (k + 1) + c (k + 1 + 1) * 2 ^ (k + 1) from rfl, Nat.pow_succ, ← Nat.mul_assoc, Nat.add_mod, ih]
    omega
/-- the counts with the last weight -/
def cwF (ws : List Int) (m K : Nat) : Nat → Nat := fun i => cnt (wfF ws) m i + (if K + 1 = i then 1 else 0)
theorem cw_total (hT : pS (cnt (wfF ws) m) 15 = T) (hL : T.log2 + 1 = L) (hT0 : T ≠ 0) (hL11 : L ≤ 11) (hK : (2 ^ L - T).log2 = K) (hp : 2 ^ L - T = 2 ^ K) : pS (cwF ws m K) 15 = 2 ^ L ∧ K + 1 ≤ L ∧ T < 2 ^ L := by
  have h1 : T < 2 ^ L := by rw [← hL]; exact Nat.lt_log2_self
  have hK2 : K < L := by
    have : 2 ^ K < 2 ^ L := by omega
    exact (Nat.pow_lt_pow_iff_right (by omega)).1 this
  refine ⟨?_, by omega, h1⟩
  have := pS_one (cnt (wfF ws) m) (K + 1) 15 (by omega)
  unfold cwF
  rw [this, hT, if_pos (by omega), Nat.add_sub_cancel]
  omega
theorem cls_last (h0 : ∀ x ∈ ws, 0 ≤ x) (hm : ws.length = m) (hb : ∀ k, k < m → wvF ws k ≤ 11) (hT : pS (cnt (wfF ws) m) 15 = T) (hL : T.log2 + 1 = L) (hT0 : T ≠ 0) (hL11 : L ≤ 11) (hK : (2 ^ L - T).log2 = K) (hp : 2 ^ L - T = 2 ^ K) :
    (clsF ws = if cwF ws m K 1 = 0 then 2 else 0) ∧ cwF ws m K 1 % 2 = 0 := by
  have h1 := cls_rest h0 hm hb hT
  obtain ⟨h2, h3, h4⟩ := cw_total hT hL hT0 hL11 hK hp
  constructor
  · have hne : ¬ (11 < L ∨ 2 ^ L - T ≠ 2 ^ K) := by rintro (e | e) <;> omega
    rw [h1, if_neg hT0, hL, hK, if_neg hne]
    have : (if 2 ^ L - T = 1 then 1 else 0) = (if K + 1 = 1 then 1 else 0) := by
      rw [hp]
      by_cases e : K = 0
      · subst e; rfl
      · have : 2 ^ 1 ≤ 2 ^ K := Nat.pow_le_pow_right (by omega) (by omega)
        rw [if_neg (show ¬ 2 ^ K = 1 by omega), if_neg (show ¬ K + 1 = 1 by omega)]
    unfold cwF
    rw [this]
  · have h5 := ones_par (cwF ws m K) 14
    rw [h2] at h5
    rw [← h5, ← hL, Nat.pow_succ]
    omega
/-- each weight is at most the table's log -/
theorem wv_log (hb : ∀ k, k < m → wvF ws k ≤ 11) (hT : pS (cnt (wfF ws) m) 15 = T) (hL : T.log2 + 1 = L) (k : Nat) (hk : k < m) (h1 : 1 ≤ wvF ws k) : wvF ws k ≤ L := by
  have h2 : T < 2 ^ L := by rw [← hL]; exact Nat.lt_log2_self
  have hw : wfF ws k = wvF ws k := by unfold wfF; have := hb k hk; omega
  have h3 : 1 ≤ cnt (wfF ws) m (wvF ws k) := by
    rcases Nat.eq_zero_or_pos (cnt (wfF ws) m (wvF ws k)) with h | h
    · exact absurd hw ((cnt_none _ _).1 h k hk)
    · exact h
  have h4 : 2 ^ (wvF ws k - 1) ≤ T := by
    have h5 := pS_mono (cnt (wfF ws) m) (show wvF ws k ≤ 15 by have := hb k hk; omega)
    rw [hT] at h5
    obtain ⟨j, hj⟩ : ∃ j, wvF ws k = j + 1 := ⟨wvF ws k - 1, by omega⟩
    rw [hj] at h5 h3 ⊢
    simp only [pS] at h5
    rw [Nat.add_sub_cancel]
    have : 1 * 2 ^ j ≤ cnt (wfF ws) m (j + 1) * 2 ^ j := Nat.mul_le_mul_right _ h3
    omega
  have : 2 ^ (wvF ws k - 1) < 2 ^ L := by omega
  have := (Nat.pow_lt_pow_iff_right (by omega : 1 < 2)).1 this
  omega
end
end Go.Proofs.YthkklojjpgjiiaaFmt
namespace Go.Proofs.YthkklojjpgjiiaaFmt
open Go.RowKit Go.Extern.Stop Go.Stop Go.Extern

noncomputable def ncTail : Code := cR (cR (cR (cR (cR (cR (cR (cR (cR (cR (cR (cR (cR (cR (cR (cR (cR ((Tryf.f44.body).getD .skip)))))))))))))))))
/-- the loop's end -/
def NcEnd (w : World) (D n lg : Nat) (l : List UInt8) (f1 : Nat → Value) (F : Act) (w' : World) : Prop :=
  ∃ v4 v7 v8 v11, ∃ (m bc off gt : Nat) (out : List Int), NcF D n (.int .u16 (m : Nat)) v4 v7 v8 (.int .u64 (bc : Nat)) (.int .i32 1) v11 (.int .i32 (gt : Nat)) F ∧ gt = 2 ^ lg ∧
    NcM w D f1 off out w' ∧ out.length = m ∧ off + 4 ≤ n ∧ (off + 4 < n → bc ≤ 7) ∧ m ≤ 321 ∧ bc ≤ 100 * m + 40 ∧ Least out ∧ sumA out = 2 ^ lg ∧ ∀ R, TopR l R → Ck l (8 * off + bc) 0 out R
/-- the chances are read -/
def NcGood (w : World) (D n lg : Nat) (l : List UInt8) (f1 : Nat → Value) (F : Act) (w' : World) : Prop :=
  F.defers = [] ∧ F.tmps.size = 340 ∧ F.tmps.getD 2 undef = .nilIface ∧ ∃ out off, NcM w D (updV f1 528 (.int .u16 (out.length : Nat))) off out w' ∧
    Least out ∧ sumA out = 2 ^ lg ∧ 2 ≤ out.length ∧ out.length ≤ 256 ∧ off ≤ n ∧ ∀ R, TopR l R → (off = n ∧ LostR l R) ∨ ∃ i, R = some (out, i) ∧ off = (i + 7) / 8
theorem cell_new (w : World) (g : Nat) (v : Value) (T : TypeId) (hg : g = w.heap.size) : (w.alloc (.cells #[v] T)).cell? ⟨g, 0, none⟩ = some v := by
  subst hg
  exact cell_of_row _ _ 0 _ _ (0, 0) (heap_alloc_new _ _)
theorem NcM.setLen {w0 wr : World} {D off : Nat} {f1 : Nat → Value} {out : List Int} (h : NcM w0 D f1 off out wr) (v : Value) : NcM w0 D (updV f1 528 v) off out (wr.setCell ⟨D, 528, none⟩ v) := by
  obtain ⟨f, h1, h2, h3, h4, h5⟩ := h
  refine ⟨_, h1.set_ 528 _, fun k hk hk2 => ?_, by rw [updV_ne _ _ _ _ (by omega)]; exact h3, fun hl i hi => by rw [updV_ne _ _ _ _ (by omega)]; exact h4 hl i hi, h5.set_ rfl _⟩
  unfold updV
  split
  · rfl
  · exact h2 k hk hk2
set_option maxRecDepth 100000 in
set_option maxHeartbeats 6400000 in
theorem nc_end {F : Interp} {w : World} {D : Nat} {A : Option Addr} {n c x : Nat} {l : List UInt8} {f1 : Nat → Value} (E : NcE F w D A n c x l f1) (h529 : f1 529 = .int .u8 (x + 5 : Nat)) (Q : Exit → Act → World → Prop)
    (hret : ∀ F w', NcBad w D l F w' → Q .ret F w') (hK : ∀ F w', NcGood w D n (x + 5) l f1 F w' → Q .ret F w') (F0 : Act) (wr : World) (hI : NcEnd w D n (x + 5) l f1 F0 wr) : Code.wp Tryf.prog ncTail Q F0 wr := by
  obtain ⟨v4, v7, v8, v11, m, bc, off, gt, out, hF, hgt, hM, hml, hoff, hbc, hm, hbm, hle, hsum, hL⟩ := hI
  rw [nc_frame hF]
  conv => arg 2; whnf
  have hM2 := hM.setLen (.int .u16 (m : Nat))
  have hq := fun R hR => (hL R hR).last
  obtain ⟨f3, hr3, hf3, h513, hnorm, hon⟩ := hM
  have e529 : f3 529 = .int .u8 (x + 5 : Nat) := by rw [hf3 529 (by omega) (by omega)]; exact h529
  have k528 : wr.cell? ⟨D, 528, none⟩ = some (f3 528) := hr3.cell 528 (by omega)
  have z528 : wr.frozen? ⟨D, 528, none⟩ = false := hr3.frozen 528
  have k529 : wr.cell? ⟨D, 529, none⟩ = some (.int .u8 (x + 5 : Nat)) := hr3.cellv 529 (by omega) _ e529
  have HM2 := Lib.hid hM2
  have HQ := Lib.hid hq
  have HML := Lib.hid hml
  have HLE := Lib.hid hle
  have HSUM := Lib.hid hsum
  have HBC := Lib.hid hbc
  have HRET := Lib.hid hret
  have HK := Lib.hid hK
  have HT : Hid (wr.tape = w.tape) := Lib.hid hon.tape
  clear hF hM2 hq hr3 hf3 h513 hnorm hon e529 hL hml hle hsum hbc hret hK h529
  have hx1 := E.hx1
  by_cases h1 : m ≤ 1
  · have d1 : decide ((m : Int) ≤ 1) = true := decide_eq_true (by omega)
    have H1 := Lib.hid h1
    clear h1
    go_wp2_with fail
    refine (errorf_C F _ _ _ (by show F.answers wr.tape; rw [HT.out]; exact E.hF) (cell_new _ _ _ _ (by simp))).mono ?_
    rintro e w5 he
    obtain ⟨⟨b, s, rfl, hc⟩, hon⟩ := errE_of he
    have HC := Lib.hid hc
    have HON := Lib.hid hon
    clear he hc hon
    go_wp2_with fail
    refine HRET.out _ _ ⟨rfl, rfl, b, s, rfl, HC.out, ((HM2.out.only.alloc _).trans (HON.out.mono (fun _ h => h.elim))), fun R hR => ?_⟩
    rcases HQ.out R hR with ⟨_, h⟩ | ⟨h, _⟩ | ⟨h, _⟩
    · exact .inr (.inl h)
    · exact .inl h
    · exact .inr (.inr (.inr ⟨_, _, h, by rw [HML.out]; exact H1.out⟩))
  · have d1 : decide ((m : Int) ≤ 1) = false := decide_eq_false (by omega)
    by_cases h2 : 256 < m
    · have d2 : decide ((256 : Int) < (m : Int)) = true := decide_eq_true (by omega)
      have H2 := Lib.hid h2
      clear h1 h2
      go_wp2_with fail
      refine (errorf_D F _ _ _ (by show F.answers wr.tape; rw [HT.out]; exact E.hF) (cell_new _ _ _ _ (by simp))).mono ?_
      rintro e w5 he
      obtain ⟨⟨b, s, rfl, hc⟩, hon⟩ := errE_of he
      have HC := Lib.hid hc
      have HON := Lib.hid hon
      clear he hc hon
      go_wp2_with fail
      refine HRET.out _ _ ⟨rfl, rfl, b, s, rfl, HC.out, ((HM2.out.only.alloc _).trans (HON.out.mono (fun _ h => h.elim))), fun R hR => ?_⟩
      rcases HQ.out R hR with ⟨_, h⟩ | ⟨h, _⟩ | ⟨_, _, h⟩
      · exact .inr (.inl h)
      · exact .inl h
      · have := HML.out; have := H2.out; omega
    · have d2 : decide ((256 : Int) < (m : Int)) = false := decide_eq_false (by omega)
      by_cases h3 : 32 < bc
      · have d3 : decide ((32 : Int) < (bc : Int)) = true := decide_eq_true (by omega)
        have H3 := Lib.hid h3
        clear h1 h2 h3
        go_wp2_with fail
        refine (errorf_X F _ _ _ (by show F.answers wr.tape; rw [HT.out]; exact E.hF) (cell_new _ _ _ _ (by simp))).mono ?_
        rintro e w5 he
        obtain ⟨⟨b, s, rfl, hc⟩, hon⟩ := errE_of he
        have HC := Lib.hid hc
        have HON := Lib.hid hon
        clear he hc hon
        go_wp2_with fail
        refine HRET.out _ _ ⟨rfl, rfl, b, s, rfl, HC.out, ((HM2.out.only.alloc _).trans (HON.out.mono (fun _ h => h.elim))), fun R hR => ?_⟩
        rcases HQ.out R hR with ⟨_, h⟩ | ⟨h, _⟩ | ⟨_, h, _⟩
        · exact .inr (.inl h)
        · exact .inl h
        · exfalso
          have := H3.out
          have := E.hnl
          by_cases h5 : off + 4 < n
          · have := HBC.out h5; omega
          · omega
      · have d3 : decide ((32 : Int) < (bc : Int)) = false := decide_eq_false (by omega)
        obtain ⟨e8, he8⟩ : ∃ e8, (bc + 7) / 8 = e8 := ⟨_, rfl⟩
        have he8i : ((bc : Int) + 7) / 8 = (e8 : Int) := by omega
        have HE8 := Lib.hid he8
        have H1 := Lib.hid h1
        have H2 := Lib.hid h2
        have H3 := Lib.hid h3
        have HOFF := Lib.hid hoff
        have hfin : ∀ wz, NcM w D (updV f1 528 (.int .u16 (m : Nat))) (off + e8) out wz → ∀ F', F'.defers = [] → F'.tmps.size = 340 → F'.tmps.getD 2 undef = .nilIface → Q .ret F' wz := by
          intro wz hz F' hd hs h2
          have h5 : off + e8 ≤ n := by
            have := HE8.out
            have := H3.out
            by_cases h5 : off + 4 < n
            · have := HBC.out h5; omega
            · omega
          refine HK.out F' wz ⟨hd, hs, h2, out, off + e8, by rw [HML.out]; exact hz, HLE.out, HSUM.out, by rw [HML.out]; have := H1.out; omega, by rw [HML.out]; have := H2.out; omega, h5, fun R hR => ?_⟩
          have h6 := E.hnl
          have h7 := HE8.out
          have h8 := H3.out
          rcases HQ.out R hR with ⟨h, h'⟩ | ⟨h, h'⟩ | ⟨h, h', h''⟩
          · refine .inl ⟨?_, h'⟩
            omega
          · exfalso
            have := HML.out
            have := H2.out
            by_cases h5 : off + 4 < n
            · have := HBC.out h5; omega
            · omega
          · exact .inr ⟨_, h, by omega⟩
        have HFIN := Lib.hid hfin
        clear he8 h1 h2 h3 hoff hfin
        rcases (show x = 0 ∨ x = 1 by omega) with rfl | rfl
        · have hg : gt = 32 := hgt
          subst hg
          clear hgt
          go_wp2_with fail
          refine (HM2.out.adv e8 (by have := HE8.out; have := H3.out; omega) (by have := HOFF.out; have := E.hn; omega) (e8 : Nat) rfl).mono ?_
          rintro e wa ⟨rfl, hMa⟩
          have HMA := Lib.hid hMa
          clear hMa
          go_wp2_with fail
          exact HFIN.out _ HMA.out _ rfl rfl rfl
        · have hg : gt = 64 := hgt
          subst hg
          clear hgt
          go_wp2_with fail
          refine (HM2.out.adv e8 (by have := HE8.out; have := H3.out; omega) (by have := HOFF.out; have := E.hn; omega) (e8 : Nat) rfl).mono ?_
          rintro e wa ⟨rfl, hMa⟩
          have HMA := Lib.hid hMa
          clear hMa
          go_wp2_with fail
          exact HFIN.out _ HMA.out _ rfl rfl rfl
end Go.Proofs.YthkklojjpgjiiaaFmt
