/-
  spec.zChances: what the reading of chances comes to. Conditions: those of each.
-/
import Derived.Test.YthkklojjpgjiiaaFmtCodeT07
import Derived.Test.YthkklojjpgjiiaaFmtCodeT08
import Derived.Deep.Onto
import Derived.Outline
import Derived.Deep.CutRange
import Derived.Deep.DeepCutAuto
namespace Go.Proofs.YthkklojjpgjiiaaFmt
open Go.RowKit

/-- the reading of a description as a whole -/
def TopR (l : List UInt8) (R : Option (List Int × Nat)) : Prop :=
  ((l = [] ∨ 1 < numF l 0 4) ∧ R = none) ∨ (l ≠ [] ∧ numF l 0 4 ≤ 1 ∧ CR l 4 (2 ^ (numF l 0 4 + 5)) [] R)
/-- what zChances hands back -/
def ChPost (w : World) (l : List UInt8) (e : Ending) (w' : World) : Prop :=
  ∃ R, TopR l R ∧ Below w.heap.size w w' ∧
    ((R = none ∧ e = .returned (.tuple #[.slice none 0 0, .int .i64 0, .int .i64 0, .int .i64 1])) ∨
     (∃ o i v, R = some (o, i) ∧ OwnI w' w.heap.size v o ∧ e = .returned (.tuple #[v, .int .i64 (numF l 0 4 + 5 : Nat), .int .i64 ((i + 7) / 8 : Nat), .int .i64 0])))
/-- where a reader of bits stands -/
def posOf (w : World) (g : Nat) : Nat := match w.cell? ⟨g, 1, none⟩ with | some (.int _ z) => z.toNat | _ => 0
theorem posOf_row {w : World} {g i : Nat} {A : Option Addr} {n c : Nat} (h : w.heap[g]? = some (.cells #[.slice A n c, .int .i64 (i : Nat)] 152 (0, 0))) : posOf w g = i := by
  unfold posOf
  rw [show w.cell? ⟨g, 1, none⟩ = some (.int .i64 (i : Nat)) from cell_of_row w g 1 _ _ (0, 0) h]
  simp
theorem below_drewN {B : Nat} {w w' : World} (h : Below B w w') (q : Nat) : Below B w (w'.drewN q) := ⟨h.os, h.tape, h.output, h.size, h.block⟩
theorem fore_over' {w : World} {B g : Nat} {A : Option Addr} {n c : Nat} {l : List UInt8} (hs : Sl w B A n c l) (hn : n ≤ 1000000) (i : Nat) (hR : w.heap[g]? = some (.cells #[.slice A n c, .int .i64 (i : Nat)] 152 (0, 0))) (b : Bool) (hb : b = decide (8 * n < i)) :
    Calls Tryf.prog 51 #[.pointer (some ⟨g, 0, none⟩)] w fun e w' => e = .returned (.bool b) ∧ DrewN w w' := by
  refine (fore_over hs hn (i : Nat) hR).mono ?_
  rintro e w' ⟨rfl, h⟩
  refine ⟨?_, h⟩
  rw [hb]
  exact congrArg (fun z => Ending.returned (Value.bool z)) (by rw [decide_eq_decide]; omega)
/-- between two rounds -/
def RelC (w : World) (g : Nat) (A : Option Addr) (n c : Nat) (l : List UInt8) (lg : Nat) (lv ov : Value) (wr : World) : Prop :=
  ∃ (i left : Nat) (out : List Int), wr.heap[g]? = some (.cells #[.slice A n c, .int .i64 (i : Nat)] 152 (0, 0)) ∧ lv = .int .i64 (left : Nat) ∧ OwnI wr (g + 1) ov out ∧ Below g w wr ∧ g < wr.heap.size ∧
    out.length ≤ 5000 ∧ left ≤ 64 ∧ i ≤ 8 * n + 20 ∧ ∀ R, CR l i left out R → CR l 4 (2 ^ (lg + 5)) [] R

/-- within a run of zeros, between two reads -/
def RelZ (w : World) (g : Nat) (A : Option Addr) (n c : Nat) (l : List UInt8) (out : List Int) (j : Nat) (ov : Value) (wr : World) : Prop :=
  ∃ (q k : Nat), wr.heap[g]? = some (.cells #[.slice A n c, .int .i64 (q : Nat)] 152 (0, 0)) ∧ OwnI wr (g + 1) ov (out ++ [0] ++ List.replicate k 0) ∧ Below g w wr ∧ g < wr.heap.size ∧
    j ≤ q ∧ 2 * k ≤ 3 * (q - j) ∧ q ≤ 8 * n + 10 ∧ ∀ k' j', ZR l q k' j' → ZR l j (k + k') j'
/-- within the zeros of one read -/
def RelI (w : World) (g : Nat) (A : Option Addr) (n c q v : Nat) (o : List Int) (ov tv : Value) (wr : World) : Prop :=
  ∃ t : Nat, t ≤ v ∧ tv = .int .i64 (t : Nat) ∧ wr.heap[g]? = some (.cells #[.slice A n c, .int .i64 (q : Nat)] 152 (0, 0)) ∧ OwnI wr (g + 1) ov (o ++ List.replicate t 0) ∧ Below g w wr ∧ g < wr.heap.size
set_option maxRecDepth 100000 in
set_option maxHeartbeats 3200000 in
theorem zChances_any {w : World} {A : Option Addr} {n c : Nat} {l : List UInt8} (hs : Sl w w.heap.size A n c l) (hn : n ≤ 130) :
    Calls Tryf.prog 36 #[.slice A n c, .int .i64 6, .int .i64 255] w (ChPost w l) := by
  have hR1 : (w.alloc (.cells #[.slice A n c, .int .i64 0] 152)).heap[w.heap.size]? = some (.cells #[.slice A n c, .int .i64 ((0 : Nat) : Int)] 152 (0, 0)) := heap_alloc_new _ _
  have HS := Lib.hid hs
  have hb1 : Below w.heap.size w (w.alloc (.cells #[.slice A n c, .int .i64 0] 152)) := below_new w _
  have K := Lib.hid (fore_read' (hs.below hb1) (by omega) 0 4 (by omega) (by omega) 4 rfl hR1)
  obtain ⟨x, hx⟩ : ∃ x, numF l 0 4 = x := ⟨_, rfl⟩
  have hx16 : x < 16 := by rw [← hx]; exact numF_lt l 0 4
  rw [hx] at K
  have HX := Lib.hid hx
  have HB1 := Lib.hid hb1
  have hnl := hs.len
  have hcm := hs.most
  have hcc := hs.cap
  have HNL := Lib.hid hnl
  clear hs hR1 hb1 hx hnl
  by_cases hn0 : n = 0
  · subst hn0
    go_enter Tryf.func36, Tryf.ntmps36
    go_wp2_with fail
    refine K.out.mono ?_
    rintro e w1 ⟨rfl, hf⟩
    have HF := Lib.hid hf
    clear hf
    go_wp2_with fail
    refine bodyPost_ret (v := .tuple #[.slice none 0 0, .int .i64 0, .int .i64 0, .int .i64 1]) (by simp [results, Tryf.results36, go_sem]) rfl ?_
    exact ⟨none, .inl ⟨.inl (List.length_eq_zero_iff.1 HNL.out), rfl⟩, HB1.out.trans HF.out.2.2.1, .inl ⟨rfl, rfl⟩⟩
  · have hnd : ((n : Int) == 0) = false := by simpa using hn0
    by_cases hx1 : 1 < x
    · have hx2 : (6 : Int) < (x : Int) + 5 := by omega
      go_enter Tryf.func36, Tryf.ntmps36
      go_wp2_with fail
      refine K.out.mono ?_
      rintro e w1 ⟨rfl, hf⟩
      have HF := Lib.hid hf
      clear hf
      go_wp2_with fail
      refine bodyPost_ret (v := .tuple #[.slice none 0 0, .int .i64 0, .int .i64 0, .int .i64 1]) (by simp [results, Tryf.results36, go_sem]) rfl ?_
      exact ⟨none, .inl ⟨.inr (by rw [HX.out]; exact hx1), rfl⟩, HB1.out.trans HF.out.2.2.1, .inl ⟨rfl, rfl⟩⟩
    · have hx2 : (x : Int) + 5 ≤ 6 := by omega
      obtain ⟨P, hP⟩ : ∃ P : Nat, 2 ^ (x + 5) = P := ⟨_, rfl⟩
      have hP64 : P ≤ 64 := by rw [← hP]; exact Nat.le_trans (Nat.pow_le_pow_right (by omega) (show x + 5 ≤ 6 by omega)) (by decide)
      have ew : wrap64 (2 ^ (x + 5)) = (P : Int) := by
        rw [show (2 : Int) ^ (x + 5) = ((2 ^ (x + 5) : Nat) : Int) by simp, hP]
        unfold wrap64; omega
      have HP := Lib.hid hP
      have HEW := Lib.hid ew
      clear hP ew
      go_enter Tryf.func36, Tryf.ntmps36
      go_wp2_with fail
      refine K.out.mono ?_
      rintro e w1 ⟨rfl, hf⟩
      have HF := Lib.hid hf
      clear hf
      go_wp2_with fail
      have hO0 : OwnI (w1.alloc (.cells #[] 3)) (w.heap.size + 1) (.slice (some ⟨w1.heap.size, 0, none⟩) 0 0) [] := OwnI.lit w1 (by have := HF.out.2.1; simp at this; omega)
      have hb0 : Below w.heap.size w (w1.alloc (.cells #[] 3)) := (HB1.out.trans HF.out.2.2.1).trans ((below_new w1 _).mono (by have := HF.out.2.1; simp at this; omega))
      have HO0 := Lib.hid hO0
      have HB0 := Lib.hid hb0
      have hg1 : w.heap.size < w1.heap.size := by have := HF.out.2.1; simp at this; omega
      have HR0 : Hid ((w1.alloc (.cells #[] 3)).heap[w.heap.size]? = some (.cells #[.slice A n c, .int .i64 ((4 : Nat) : Int)] 152 (0, 0))) := Lib.hid ((Below.heap_alloc w1 _ _ hg1).trans HF.out.1)
      clear hO0 hb0
      go_loopw [12, 13] (RelC w w.heap.size A n c l x) (fun _ _ wr => 8 * n + 100 - posOf wr w.heap.size)
      case atStart =>
        exact ⟨4, P, [], HR0.out, congrArg (Value.int .i64) HEW.out, HO0.out, HB0.out, by simp; omega, by simp, hP64, by omega, fun R h => by rw [HP.out]; exact h⟩
      case round =>
        obtain ⟨i, left, out, hR, rfl, hO, hB, hgl, hol, hleft, hi, hCR⟩ := hrel
        obtain ⟨m, hm⟩ : ∃ m, out.length = m := ⟨_, rfl⟩
        obtain ⟨A', c', hov, hc1, hc2⟩ := hO.len
        rw [hm] at hov hc1 hol
        subst hov
        have HM := Lib.hid hm
        have HC2 := Lib.hid hc2
        clear hm hc2
        have HR := Lib.hid hR
        have HO := Lib.hid hO
        have HBr := Lib.hid hB
        have HC := Lib.hid hCR
        have HSr := Lib.hid (HS.out.below hB)
        have HLE := Lib.hid hleft
        have HI := Lib.hid hi
        have HX2 := Lib.hid hx2
        have HX1 := Lib.hid hx1
        have HX16 := Lib.hid hx16
        have HP64 := Lib.hid hP64
        have HGL := Lib.hid hgl
        have HN := Lib.hid hn
        have HG1 := Lib.hid hg1
        have HOL := Lib.hid hol
        have HCM := Lib.hid hcm
        have HCC := Lib.hid hcc
        clear hR hO hB hCR hleft hi hx2 hx1 hx16 hP64 hgl hg1 hn hc1 hcm hcc
        by_cases hov : 8 * n < i
        · have KO := Lib.hid (fore_over' HSr.out (by have := HN.out; omega) i HR.out true (decide_eq_true hov).symm)
          have HOV := Lib.hid hov
          clear hov hol
          by_cases hl0 : left = 0
          · subst hl0
            go_wp2_with fail
            refine KO.out.mono ?_
            rintro e w2 ⟨rfl, q, rfl⟩
            go_wp2_with fail
            refine bodyPost_ret (v := .tuple #[.slice none 0 0, .int .i64 0, .int .i64 0, .int .i64 1]) (by simp [results, Tryf.results36, go_sem]) rfl ?_
            exact ⟨none, .inr ⟨by have := HNL.out; intro h; rw [h] at this; simp at this; omega, by have := HX1.out; rw [HX.out]; omega, by rw [HX.out]; exact HC.out _ (.bad (.inl (by rw [HNL.out]; exact HOV.out)))⟩, below_drewN HBr.out q, .inl ⟨rfl, rfl⟩⟩
          · have hl1 : 0 < left := by omega
            have d1 : decide ((32768 : Int) ≤ (m : Int)) = false := decide_eq_false (by have := HOL.out; omega)
            go_wp2_with fail
            refine KO.out.mono ?_
            rintro e w2 ⟨rfl, q, rfl⟩
            go_wp2_with fail
            refine bodyPost_ret (v := .tuple #[.slice none 0 0, .int .i64 0, .int .i64 0, .int .i64 1]) (by simp [results, Tryf.results36, go_sem]) rfl ?_
            exact ⟨none, .inr ⟨by have := HNL.out; intro h; rw [h] at this; simp at this; omega, by have := HX1.out; rw [HX.out]; omega, by rw [HX.out]; exact HC.out _ (.stop hl1 (.inl (by rw [HNL.out]; exact HOV.out)))⟩, below_drewN HBr.out q, .inl ⟨rfl, rfl⟩⟩
        · have KO := Lib.hid (fore_over' HSr.out (by have := HN.out; omega) i HR.out false (decide_eq_false hov).symm)
          have HOV := Lib.hid hov
          clear hov
          by_cases hl0 : left = 0
          · subst hl0
            by_cases hm6 : 256 < m
            · have d6 : decide ((256 : Int) < (m : Int)) = true := decide_eq_true (by omega)
              have HM6 := Lib.hid hm6
              clear hm6 hol
              go_wp2_with fail
              refine KO.out.mono ?_
              rintro e w2 ⟨rfl, q, rfl⟩
              go_wp2_with fail
              refine bodyPost_ret (v := .tuple #[.slice none 0 0, .int .i64 0, .int .i64 0, .int .i64 1]) (by simp [results, Tryf.results36, go_sem]) rfl ?_
              exact ⟨none, .inr ⟨by have := HNL.out; intro h; rw [h] at this; simp at this; omega, by have := HX1.out; rw [HX.out]; omega, by rw [HX.out]; exact HC.out _ (.bad (.inr (by rw [HM.out]; exact HM6.out)))⟩, below_drewN HBr.out q, .inl ⟨rfl, rfl⟩⟩
            · have d6 : decide ((256 : Int) < (m : Int)) = false := decide_eq_false (by omega)
              have HM6 := Lib.hid hm6
              have KB := Lib.hid (fun q => fore_bytes (w := wr.drewN q) (A := A) (n := n) (c := c) i (by have := HI.out; have := HN.out; omega) (i : Nat) rfl HR.out)
              clear hm6 hol
              go_wp2_with fail
              refine KO.out.mono ?_
              rintro e w2 ⟨rfl, q, rfl⟩
              go_wp2_with fail
              refine (KB.out q).mono ?_
              rintro e w3 ⟨rfl, rfl⟩
              go_wp2_with fail
              refine bodyPost_ret (v := .tuple #[.slice A' m c', .int .i64 ((x : Int) + 5), .int .i64 ((i + 7) / 8 : Nat), .int .i64 0]) (by simp [results, Tryf.results36, go_sem]) rfl ?_
              exact ⟨some (out, i), .inr ⟨by have := HNL.out; intro h; rw [h] at this; simp at this; omega, by have := HX1.out; rw [HX.out]; omega, by rw [HX.out]; exact HC.out _ (.done (by rw [HNL.out]; have := HOV.out; omega) (by rw [HM.out]; have := HM6.out; omega))⟩, below_drewN HBr.out q, .inr ⟨out, i, _, rfl, (show OwnI (wr.drewN q) w.heap.size (.slice A' m c') out from World.ownsRow.mono HO.out (Nat.le_succ _)), by rw [HX.out]; rfl⟩⟩
          · have hl1 : 0 < left := by omega
            have d1 : decide ((32768 : Int) ≤ (m : Int)) = false := decide_eq_false (by have := HOL.out; omega)
            by_cases hm5 : 255 < m
            · have d5 : decide ((255 : Int) < (m : Int)) = true := decide_eq_true (by omega)
              have HM5 := Lib.hid hm5
              clear hm5 hol
              go_wp2_with fail
              refine KO.out.mono ?_
              rintro e w2 ⟨rfl, q, rfl⟩
              go_wp2_with fail
              refine bodyPost_ret (v := .tuple #[.slice none 0 0, .int .i64 0, .int .i64 0, .int .i64 1]) (by simp [results, Tryf.results36, go_sem]) rfl ?_
              exact ⟨none, .inr ⟨by have := HNL.out; intro h; rw [h] at this; simp at this; omega, by have := HX1.out; rw [HX.out]; omega, by rw [HX.out]; exact HC.out _ (.stop hl1 (.inr (by rw [HM.out]; exact HM5.out)))⟩, below_drewN HBr.out q, .inl ⟨rfl, rfl⟩⟩
            · have d5 : decide ((255 : Int) < (m : Int)) = false := decide_eq_false (by omega)
              obtain ⟨⟨ch, j⟩, hcj⟩ : ∃ cj, chanceF l i left = cj := ⟨_, rfl⟩
              have KC := Lib.hid (fun q => zChance_any (HSr.out.drewN q) (by have := HN.out; omega) i left (by have := HI.out; have := HN.out; omega) hl1 (by have := HLE.out; omega) (left : Nat) rfl HR.out)
              rw [hcj] at KC
              have HCJ := Lib.hid hcj
              have HM5 := Lib.hid hm5
              clear hm5 hol hcj
              go_wp2_with fail
              refine KO.out.mono ?_
              rintro e w2 ⟨rfl, q, rfl⟩
              go_wp2_with fail
              refine (KC.out q).mono ?_
              rintro e w3 ⟨rfl, hf⟩
              have HF3 := Lib.hid hf
              have ho3 : OwnI w3 (w.heap.size + 1) (.slice A' m c') out := OwnI.but (HO.out.drewN q) (g := w.heap.size) (by omega) hf.2.2.1.os hf.2.2.1.tape hf.2.2.1.output hf.2.2.1.size (fun k hk _ => hf.2.2.2 k hk)
              have hs3 : w.heap.size < w3.heap.size := Nat.lt_of_lt_of_le HGL.out hf.2.2.1.size
              have HO3 := Lib.hid (ho3.alloc (.cells #[.int .i64 ch] 3))
              have hc3 : (w3.alloc (.cells #[.int .i64 ch] 3)).cell? ⟨w3.heap.size, 0, none⟩ = some (.int .i64 ch) := cell_of_row _ _ 0 _ _ (0, 0) (heap_alloc_new _ _)
              have HC3 := Lib.hid hc3
              have HS3 := Lib.hid hs3
              have hb3 : Below w.heap.size w w3 := (below_drewN HBr.out q).trans hf.2.2.1
              have HB3 := Lib.hid hb3
              clear hf ho3 hs3 hc3 hb3
              have hchf := chanceV_facts (numF l i (chB left)) left (by have := numF_lt l i (chB left); rw [(chT_facts left).2.2] at this; exact this)
              have hchi := HCJ.out
              rw [chanceF_eq l i left hl1] at hchi
              have hch1 := congrArg Prod.fst hchi
              have hch2 := congrArg Prod.snd hchi
              have hcB := chB_ge left hl1
              have hcB2 : chB left ≤ 7 := by
                have h1 := (chT_facts left).2.2
                have h2 := (chT_facts left).1
                have h3 := HLE.out
                have h4 : 2 ^ chB left < 2 ^ 8 := by omega
                have := (Nat.pow_lt_pow_iff_right (a := 2) (by omega)).1 h4
                omega
              dsimp only at hch1 hch2
              rw [hch1] at hchf
              have hjlo : i + 1 ≤ j := by omega
              have hjhi : j ≤ i + 7 := by omega
              have hclo : -1 ≤ ch := hchf.1
              have hchi2 : ch ≤ (left : Int) := hchf.2.1
              clear hchf hchi hch1 hch2 hcB hcB2
              have HJL := Lib.hid hjlo
              have HJH := Lib.hid hjhi
              have HCL := Lib.hid hclo
              have HCH := Lib.hid hchi2
              clear hjlo hjhi hclo hchi2
              go_upto_region 13 with (at_builtin; refine wpList_append_i _ rfl (.tmp 50) (.tmp 52) rfl (w.heap.size + 1) (.slice A' m c') out rfl HO3.out w3.heap.size rfl ch HC3.out (by rw [HM.out]; have := HOL.out; omega) (by have := HS3.out; simp; omega) ?_; intro v4 w4 ho4 hb4)
              have hb4' : Below w.heap.size w w4 := (HB3.out.trans ((below_new w3 _).mono (by have := HS3.out; omega))).trans (hb4.mono (by omega))
              have hr4 : w4.heap[w.heap.size]? = some (.cells #[.slice A n c, .int .i64 (j : Nat)] 152 (0, 0)) := (hb4.block _ (by omega)).trans ((Below.heap_alloc w3 _ _ HS3.out).trans HF3.out.1)
              have HO4 := Lib.hid ho4
              have HB4 := Lib.hid hb4'
              have HR4 := Lib.hid hr4
              have hs4 : w.heap.size < w4.heap.size := Nat.lt_of_lt_of_le HS3.out (Nat.le_trans (by simp) hb4.size)
              have HS4 := Lib.hid hs4
              clear ho4 hb4 hb4' hr4 hs4
              have hml : m ≤ 255 := by have := HM5.out; omega
              have hil : i ≤ 8 * n := by have := HOV.out; omega
              have HML := Lib.hid hml
              have HIL := Lib.hid hil
              clear hml hil
              rcases (show ch = -1 ∨ ch = 0 ∨ 0 < ch by have := HCL.out; omega) with hc0 | hc0 | hc0
              · subst hc0
                have el : wrap64 ((left : Int) - 1) = ((left - 1 : Nat) : Int) := by have := HLE.out; unfold wrap64; omega
                go_wp2_with fail
                refine ⟨⟨j, left - 1, out ++ [-1], HR4.out, congrArg (Value.int .i64) el, HO4.out, HB4.out, HS4.out, by rw [List.length_append, HM.out]; have := HML.out; simp; omega, by have := HLE.out; omega, by have := HIL.out; have := HJH.out; omega, fun R h => HC.out R (.some_ hl1 (by rw [HNL.out]; exact HIL.out) (by rw [HM.out]; exact HML.out) HCJ.out (by decide) h)⟩, ?_⟩
                rw [posOf_row HR4.out, posOf_row HR.out]
                have := HIL.out; have := HJL.out; omega
              · subst hc0
                have el0 : wrap64 ((left : Int) - 0) = (left : Int) := by have := HLE.out; unfold wrap64; omega
                have el : wrap64 (left : Int) = (left : Int) := by have := HLE.out; unfold wrap64; omega
                have HEL := Lib.hid el
                clear el0 el
                go_wp2_with fail
                obtain ⟨wo, rfl⟩ : ∃ wo : World, wo = wr := ⟨_, rfl⟩
                go_loopw [13] (RelZ w w.heap.size A n c l out j) (fun _ wq => 8 * n + 100 - posOf wq w.heap.size)
                case atStart => exact ⟨j, 0, HR4.out, by simpa using HO4.out, HB4.out, HS4.out, Nat.le_refl _, by omega, by have := HIL.out; have := HJH.out; omega, fun k' j' h => by rwa [Nat.zero_add]⟩
                case round =>
                  obtain ⟨p, k, hR, hO, hB, hgl, hjp, hkp, hpn, hZ⟩ := hrel
                  have HRz := Lib.hid hR
                  have HOz := Lib.hid hO
                  have HBz := Lib.hid hB
                  have HGz := Lib.hid hgl
                  have HJP := Lib.hid hjp
                  have HKP := Lib.hid hkp
                  have HPN := Lib.hid hpn
                  have HZ := Lib.hid hZ
                  have HSz := Lib.hid (HS.out.below hB)
                  clear hR hO hB hgl hjp hkp hpn hZ
                  obtain ⟨v, hv⟩ : ∃ v, numF l p 2 = v := ⟨_, rfl⟩
                  have hv4 : v < 4 := by rw [← hv]; exact numF_lt l p 2
                  have KR := Lib.hid (fore_read' HSz.out (by have := HN.out; omega) p 2 (by have := HPN.out; have := HN.out; omega) (by omega) 2 rfl HRz.out)
                  rw [hv] at KR
                  have HV := Lib.hid hv
                  have HV4 := Lib.hid hv4
                  clear hv hv4
                  go_wp2_with fail
                  refine KR.out.mono ?_
                  rintro e w5 ⟨rfl, hf⟩
                  have ho5 : OwnI w5 (w.heap.size + 1) _ (out ++ [0] ++ List.replicate k 0) := OwnI.but HOz.out (g := w.heap.size) (by omega) hf.2.2.1.os hf.2.2.1.tape hf.2.2.1.output hf.2.2.1.size (fun k hk _ => hf.2.2.2 k hk)
                  have HF5 := Lib.hid hf
                  have HO5 := Lib.hid ho5
                  have HB5 := Lib.hid (HBz.out.trans hf.2.2.1)
                  have HG5 : Hid (w.heap.size < w5.heap.size) := Lib.hid (Nat.lt_of_lt_of_le HGz.out hf.2.2.1.size)
                  clear hf ho5
                  go_wp2_with fail
                  obtain ⟨wi, rfl⟩ : ∃ wi : World, wi = wr := ⟨_, rfl⟩
                  go_loopw [13, 66] (RelI w w.heap.size A n c (p + 2) v (out ++ [0] ++ List.replicate k 0)) (fun _ tv _ => v - (intOf tv).toNat)
                  case atStart => exact ⟨0, Nat.zero_le _, rfl, HF5.out.1, by simpa using HO5.out, HB5.out, HG5.out⟩
                  case round =>
                    obtain ⟨t, ht, rfl, hR, hO, hB, hgl⟩ := hrel
                    have HRt := Lib.hid hR
                    have HOt := Lib.hid hO
                    have HBt := Lib.hid hB
                    have HGt := Lib.hid hgl
                    clear hR hO hB hgl
                    by_cases htv : t < v
                    · have ht4 : (t : Int) ≤ 3 := by have := HV4.out; omega
                      have hO1 := Lib.hid (HOt.out.alloc (.cells #[.int .i64 0] 3))
                      have hc1 : Hid ((wr.alloc (.cells #[.int .i64 0] 3)).cell? ⟨wr.heap.size, 0, none⟩ = some (.int .i64 0)) := Lib.hid (cell_of_row _ _ 0 _ _ (0, 0) (heap_alloc_new _ _))
                      go_wp2_with (at_builtin; refine wpList_append_i _ rfl (.tmp 68) (.tmp 69) rfl (w.heap.size + 1) _ (out ++ [0] ++ List.replicate k 0 ++ List.replicate t 0) rfl hO1.out wr.heap.size rfl 0 hc1.out (by simp only [List.length_append, List.length_replicate, List.length_cons, List.length_nil, HM.out]; have := HML.out; have := HKP.out; have := HPN.out; have := HN.out; have := HV4.out; omega) (by have := HGt.out; simp; omega) ?_; intro v7 w7 ho7 hb7)
                      refine ⟨⟨t + 1, by omega, by go_num, ?_, ?_, ?_, ?_⟩, ?_⟩
                      · exact (hb7.block _ (by omega)).trans ((Below.heap_alloc wr _ _ HGt.out).trans HRt.out)
                      · rw [List.replicate_succ', ← List.append_assoc]; exact ho7
                      · exact (HBt.out.trans ((below_new wr _).mono (by have := HGt.out; omega))).trans (hb7.mono (by omega))
                      · exact Nat.lt_of_lt_of_le HGt.out (Nat.le_trans (by simp) hb7.size)
                      · simp [intOf]; omega
                    · obtain rfl : t = v := by omega
                      have KO6 := fun b hb => fore_over' (HS.out.below HBt.out) (by have := HN.out; omega) (p + 2) HRt.out b hb
                      have HKO6 := Lib.hid KO6
                      clear KO6
                      by_cases hv3 : t < 3
                      · have HZL : Hid (numF l p 2 < 3 ∨ 8 * l.length < p + 2) := Lib.hid (.inl (by rw [HV.out]; exact hv3))
                        go_wp2_with fail
                        refine ⟨⟨p + 2, left, out ++ [0] ++ List.replicate k 0 ++ List.replicate t 0, HRt.out, congrArg (Value.int .i64) HEL.out, HOt.out, HBt.out, HGt.out, ?_, HLE.out, ?_, ?_⟩, ?_⟩
                        · simp only [List.length_append, List.length_replicate, List.length_cons, List.length_nil, HM.out]; have := HML.out; have := HKP.out; have := HPN.out; have := HN.out; omega
                        · have := HPN.out; omega
                        · intro R h
                          refine HC.out R (.zero hl1 (by rw [HNL.out]; exact HIL.out) (by rw [HM.out]; exact HML.out) HCJ.out (HZ.out t (p + 2) ?_) ?_)
                          · have hzl := ZR.last (l := l) (i := p) HZL.out
                            rw [HV.out] at hzl
                            exact hzl
                          · rw [List.append_assoc (out ++ [0]), List.replicate_append_replicate] at h
                            exact h
                        · rw [posOf_row HRt.out, posOf_row HR.out]
                          have := HIL.out; have := HJL.out; have := HJP.out; omega
                      · have ht3 : t = 3 := by have := HV4.out; omega
                        subst ht3
                        by_cases ho6 : 8 * n < p + 2
                        · have K6 := Lib.hid (HKO6.out true (decide_eq_true ho6).symm)
                          have HZL : Hid (numF l p 2 < 3 ∨ 8 * l.length < p + 2) := Lib.hid (.inr (by rw [HNL.out]; exact ho6))
                          clear hv3 ho6
                          go_wp2_with fail
                          refine K6.out.mono ?_
                          rintro e w8 ⟨rfl, q8, rfl⟩
                          go_wp2_with fail
                          refine ⟨⟨p + 2, left, out ++ [0] ++ List.replicate k 0 ++ List.replicate 3 0, HRt.out, congrArg (Value.int .i64) HEL.out, HOt.out.drewN q8, below_drewN HBt.out q8, HGt.out, ?_, HLE.out, ?_, ?_⟩, ?_⟩
                          · simp only [List.length_append, List.length_replicate, List.length_cons, List.length_nil, HM.out]; have := HML.out; have := HKP.out; have := HPN.out; have := HN.out; omega
                          · have := HPN.out; omega
                          · intro R h
                            refine HC.out R (.zero hl1 (by rw [HNL.out]; exact HIL.out) (by rw [HM.out]; exact HML.out) HCJ.out (HZ.out 3 (p + 2) ?_) ?_)
                            · have hzl := ZR.last (l := l) (i := p) HZL.out
                              rw [HV.out] at hzl
                              exact hzl
                            · rw [List.append_assoc (out ++ [0]), List.replicate_append_replicate] at h
                              exact h
                          · rw [posOf_row (w := wr.drewN q8) HRt.out, posOf_row HR.out]
                            have := HIL.out; have := HJL.out; have := HJP.out; omega
                        · have K6 := Lib.hid (HKO6.out false (decide_eq_false ho6).symm)
                          have HO6 := Lib.hid ho6
                          clear hv3 ho6
                          go_wp2_with fail
                          refine K6.out.mono ?_
                          rintro e w8 ⟨rfl, q8, rfl⟩
                          go_wp2_with fail
                          refine ⟨⟨p + 2, k + 3, HRt.out, ?_, below_drewN HBt.out q8, HGt.out, ?_, ?_, ?_, ?_⟩, ?_⟩
                          · have h := HOt.out
                            rw [List.append_assoc (out ++ [0]), List.replicate_append_replicate] at h
                            exact h
                          · have := HJP.out; omega
                          · have := HJP.out; have := HKP.out; omega
                          · have := HO6.out; omega
                          · intro k' j' h
                            have h2 := HZ.out (k' + 3) j' (.more HV.out (by rw [HNL.out]; have := HO6.out; omega) h)
                            rwa [show k + 3 + k' = k + (k' + 3) by omega]
                          · rw [posOf_row (w := wr.drewN q8) HRt.out, posOf_row HRz.out]
                            have := HO6.out; omega
              · have hci : decide (ch < 0) = false := decide_eq_false (by omega)
                have hce : (ch == 0) = false := by simp; omega
                have el : wrap64 ((left : Int) - ch) = ((left - ch.natAbs : Nat) : Int) := by have := HLE.out; have := HCH.out; unfold wrap64; omega
                have HC0 := Lib.hid hc0
                clear hc0
                go_wp2_with fail
                refine wp_loop_rounds 1 ?_
                rw [rounds_succ]
                go_wp2_with fail
                refine ⟨⟨j, left - ch.natAbs, out ++ [ch], HR4.out, congrArg (Value.int .i64) el, HO4.out, HB4.out, HS4.out, by rw [List.length_append, HM.out]; have := HML.out; simp; omega, by have := HLE.out; omega, by have := HIL.out; have := HJH.out; omega, fun R h => HC.out R (.some_ hl1 (by rw [HNL.out]; exact HIL.out) (by rw [HM.out]; exact HML.out) HCJ.out (by have := HC0.out; omega) h)⟩, ?_⟩
                rw [posOf_row HR4.out, posOf_row HR.out]
                have := HIL.out; have := HJL.out; omega
end Go.Proofs.YthkklojjpgjiiaaFmt
