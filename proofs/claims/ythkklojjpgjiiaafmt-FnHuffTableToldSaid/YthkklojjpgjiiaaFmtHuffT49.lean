/-
  spec.zCodeOf. Conditions: those of the theorem.
  spec.ReadCode: the class of a description and how many bytes it has. Conditions: those of the theorem.
-/
import Derived.Test.YthkklojjpgjiiaaFmtHuffT11
import Derived.Outline
import Derived.Deep.Cut
import Derived.Test.YthkklojjpgjiiaaFmtHuffT04
namespace Go.Proofs.YthkklojjpgjiiaaFmt
open Go.RowKit

def CodePost (w : World) (ws : List Int) (e : Ending) (w' : World) : Prop :=
  (∃ (a : Int) (A8 : Option Addr) (n8 c8 : Nat) (A9 : Option Addr) (n9 c9 : Nat), e = .returned (.tuple #[.agg #[.int .i64 a, .slice A8 n8 c8, .slice A9 n9 c9], .int .i64 (clsF ws : Nat)])) ∧ Below w.heap.size w w'
def RelW1 (ws : List Int) (m : Nat) (sv lv iv : Value) : Prop :=
  ∃ i : Nat, i ≤ m ∧ iv = .int .i64 (i : Nat) ∧ sv = .int .i64 (sumW (ws.take i) : Nat) ∧ lv = .int .i64 (onesW (ws.take i) : Nat) ∧ ∀ x ∈ ws.take i, x ≤ 11
/-- the code in the making: how long its slices may be -/
def CodeN (D : Nat) (most : Int) (wD : World) (N : Nat) (wr : World) : Prop := ∃ sv bv sl bl, CodeS D most wD sv bv sl bl wr ∧ sl.length ≤ N ∧ bl.length ≤ N
def RelK2 (D : Nat) (most : Int) (wD : World) (mo : Nat) (wv : Value) (wr : World) : Prop := ∃ wt : Nat, 1 ≤ wt ∧ wt ≤ mo + 1 ∧ wv = .int .i64 (wt : Nat) ∧ CodeN D most wD (wt * 310000) wr
def RelK3 (D : Nat) (most : Int) (wD : World) (wt M : Nat) (sv : Value) (wr : World) : Prop := ∃ s : Nat, s ≤ M ∧ sv = .int .i64 (s : Nat) ∧ CodeN D most wD (wt * 310000 + s * 1024) wr
def RelK4 (D : Nat) (most : Int) (wD : World) (N k : Nat) (tv : Value) (wr : World) : Prop := ∃ t : Nat, t ≤ k ∧ tv = .int .i64 (t : Nat) ∧ CodeN D most wD (N + t) wr
theorem CodeN.mono {D : Nat} {most : Int} {wD wr : World} {N N' : Nat} (h : CodeN D most wD N wr) (hN : N ≤ N') : CodeN D most wD N' wr := by
  obtain ⟨sv, bv, sl, bl, h1, h2, h3⟩ := h
  exact ⟨sv, bv, sl, bl, h1, by omega, by omega⟩
theorem getD_mem (l : List Int) (k : Nat) (h : k < l.length) : l.getD k 0 ∈ l := by
  rw [List.getD_eq_getElem?_getD, List.getElem?_eq_getElem h, Option.getD_some]
  exact List.getElem_mem h

theorem cls_heavy (ws : List Int) (x : Int) (h : x ∈ ws) (hx : 11 < x) : clsF ws = 1 := by
  unfold clsF
  rw [if_pos ⟨x, h, hx⟩]
theorem refused_post {w w0 : World} (ws : List Int) (hb : Below w.heap.size w w0) (hc : clsF ws = 1) (v1 v2 v3 : Value) :
    CodePost w ws (.returned (.tuple #[.agg #[.int .i64 0, .slice none 0 0, .slice none 0 0], .int .i64 1])) (((w0.setCell ⟨w.heap.size, 0, none⟩ v1).setCell ⟨w.heap.size, 1, none⟩ v2).setCell ⟨w.heap.size, 2, none⟩ v3) :=
  ⟨⟨0, none, 0, 0, none, 0, 0, by rw [hc]; rfl⟩, ((hb.setCell (Nat.le_refl _) _).setCell (Nat.le_refl _) _).setCell (Nat.le_refl _) _⟩
theorem pow_wrap (y : Nat) (h : y ≤ 30) : wrap64 ((2 : Int) ^ y) = ((2 ^ y : Nat) : Int) := by
  have : 2 ^ y ≤ 2 ^ 30 := Nat.pow_le_pow_right (by omega) h
  rw [show (2 : Int) ^ y = ((2 ^ y : Nat) : Int) by simp]
  generalize (2 : Nat) ^ y = z at *
  unfold wrap64
  omega
set_option maxRecDepth 100000 in
set_option maxHeartbeats 3200000 in
theorem zCodeOf_any {w : World} {G m c : Nat} {ws : List Int} (hG : G < w.heap.size) (hm : ws.length = m) (hm2 : m ≤ 300) (hws : ∀ x ∈ ws, 0 ≤ x)
    (hcs : ∀ k, k < m → w.cell? ⟨G, k, none⟩ = some (.int .i64 (ws.getD k 0))) :
    Calls Tryf.prog 15 #[.slice (some ⟨G, 0, none⟩) m c] w (CodePost w ws) := by
  have HM := Lib.hid hm
  have HWS := Lib.hid hws
  have HCS := Lib.hid hcs
  obtain ⟨w0, hw0⟩ : ∃ w0, w.alloc (.cells #[.int .i64 0, .slice none 0 0, .slice none 0 0] 31 (0, 0)) = w0 := ⟨_, rfl⟩
  have hb0 : Below w.heap.size w w0 := by rw [← hw0]; exact below_new _ _
  have hr0 : w0.heap[w.heap.size]? = some (.cells #[.int .i64 0, .slice none 0 0, .slice none 0 0] 31 (0, 0)) := by rw [← hw0]; exact heap_alloc_new _ _
  have hz0 : w0.heap.size = w.heap.size + 1 := by rw [← hw0]; simp
  have HB0 := Lib.hid hb0
  have HR0 := Lib.hid hr0
  have HZ0 := Lib.hid hz0
  have r0 : w0.cell? ⟨w.heap.size, 0, none⟩ = some (.int .i64 0) := cell_of_row w0 _ 0 _ _ (0, 0) hr0
  have r1 : w0.cell? ⟨w.heap.size, 1, none⟩ = some (.slice none 0 0) := cell_of_row w0 _ 1 _ _ (0, 0) hr0
  have r2 : w0.cell? ⟨w.heap.size, 2, none⟩ = some (.slice none 0 0) := cell_of_row w0 _ 2 _ _ (0, 0) hr0
  have g0 : w0.frozen? ⟨w.heap.size, 0, none⟩ = false := frozen_of_row w0 _ 0 _ _ hr0
  have g1 : w0.frozen? ⟨w.heap.size, 1, none⟩ = false := frozen_of_row w0 _ 1 _ _ hr0
  have g2 : w0.frozen? ⟨w.heap.size, 2, none⟩ = false := frozen_of_row w0 _ 2 _ _ hr0
  clear hm hws hcs hb0 hr0 hz0
  go_enter Tryf.func15, Tryf.ntmps15
  go_upto_region 1 with (fail)
  clear hw0
  go_wp2_with fail
  go_loop [4, 5, 17] (RelW1 ws m) (fun _ _ iv => m - (intOf iv).toNat)
  case atStart => exact ⟨0, Nat.zero_le _, rfl, rfl, rfl, fun x hx => by cases hx⟩
  case round =>
    obtain ⟨i, hi, rfl, rfl, rfl, hle⟩ := hrel
    obtain ⟨s, hs⟩ : ∃ s, sumW (ws.take i) = s := ⟨_, rfl⟩
    obtain ⟨q, hq⟩ : ∃ q, onesW (ws.take i) = q := ⟨_, rfl⟩
    rw [hs, hq]
    have hsb : s ≤ 400000 := by
      rw [← hs]
      refine Nat.le_trans (sumW_le _ hle) ?_
      have := List.length_take_le i ws
      omega
    have hqb : q ≤ 300 := by
      rw [← hq]
      refine Nat.le_trans (List.countP_le_length) ?_
      have := List.length_take_le i ws
      omega
    have HSE := Lib.hid hs
    have HQE := Lib.hid hq
    have HLE := Lib.hid hle
    clear hs hq hle
    by_cases him : i < m
    · obtain ⟨x, hx⟩ : ∃ x, ws.getD i 0 = x := ⟨_, rfl⟩
      have hk : w0.cell? ⟨G, i, none⟩ = some (.int .i64 x) := by rw [← hx]; exact (HB0.out.cell (p := ⟨G, i, none⟩) hG).trans (HCS.out i him)
      have hx0 : 0 ≤ x := by rw [← hx]; exact HWS.out _ (getD_mem ws i (by rw [HM.out]; exact him))
      have htk := take_snocI ws i (by rw [HM.out]; exact him)
      rw [hx] at htk
      have hmem : x ∈ ws := by rw [← hx]; exact getD_mem ws i (by rw [HM.out]; exact him)
      have HTK := Lib.hid htk
      have HMEM := Lib.hid hmem
      clear hx htk hmem
      by_cases hx11 : 11 < x
      · have hd : decide ((11 : Int) < x) = true := decide_eq_true hx11
        have HX11 := Lib.hid hx11
        clear hx11 hsb hqb
        go_wp2_with fail
        refine bodyPost_ret (v := .tuple #[.agg #[.int .i64 0, .slice none 0 0, .slice none 0 0], .int .i64 1]) (by simp [results, Tryf.results15, go_sem, r0, r1, r2]) rfl ?_
        exact refused_post ws HB0.out (cls_heavy ws x HMEM.out HX11.out) _ _ _
      · rcases (show x = 0 ∨ 0 < x by omega) with hxz | hxp
        · subst hxz
          go_wp2_with fail
          refine ⟨⟨i + 1, by omega, by go_num, ?_, ?_, ?_⟩, by simp [intOf]; omega⟩
          · rw [HTK.out, sumW_append, HSE.out]; rfl
          · rw [HTK.out, onesW_append, HQE.out]; rfl
          · rw [HTK.out]; intro z hz; rcases List.mem_append.1 hz with h | h
            · exact HLE.out z h
            · rw [List.mem_singleton.1 h]; omega
        · obtain ⟨y, hy⟩ : ∃ y : Nat, x = (y : Int) + 1 := ⟨(x - 1).toNat, by omega⟩
          subst hy
          have hy10 : y ≤ 10 := by omega
          have hpb : 2 ^ y ≤ 2 ^ 10 := Nat.pow_le_pow_right (by omega) hy10
          have hsum : sumW (ws.take (i + 1)) = s + 2 ^ y := by
            rw [HTK.out, sumW_append, HSE.out]
            simp only [sumW]
            rw [if_pos (by omega), show ((y : Int) + 1 - 1).toNat = y by omega, Nat.add_zero]
          have hval : wrap64 ((s : Int) + wrap64 (2 ^ y)) = ((s + 2 ^ y : Nat) : Int) := by rw [pow_wrap y (by omega)]; generalize 2 ^ y = z at *; unfold wrap64; omega
          have HSUM := Lib.hid hsum
          have HVAL := Lib.hid hval
          clear hpb hsum hval
          rcases (show y = 0 ∨ 0 < y by omega) with hy0 | hy0
          · subst hy0
            go_wp2_with fail
            refine ⟨⟨i + 1, by omega, by go_num, ?_, ?_, ?_⟩, by simp [intOf]; omega⟩
            · rw [HSUM.out]; exact congrArg (Value.int .i64) (by simp)
            · rw [HTK.out, onesW_append, HQE.out]; exact congrArg (Value.int .i64) (by simp [onesW])
            · rw [HTK.out]; intro z hz; rcases List.mem_append.1 hz with h | h
              · exact HLE.out z h
              · rw [List.mem_singleton.1 h]; decide
          · have hne : ((y : Int) + 1 == 1) = false := beq_eq_false_iff_ne.2 (by omega)
            go_wp2_with fail
            refine ⟨⟨i + 1, by omega, by go_num, ?_, ?_, ?_⟩, by simp [intOf]; omega⟩
            · rw [HSUM.out, HVAL.out]
            · rw [HTK.out, onesW_append, HQE.out]
              have : onesW [(y : Int) + 1] = 0 := by simp [onesW]; omega
              rw [this]; rfl
            · rw [HTK.out]; intro z hz; rcases List.mem_append.1 hz with h | h
              · exact HLE.out z h
              · rw [List.mem_singleton.1 h]; omega
    · obtain rfl : m = i := by omega
      have htm : ws.take m = ws := List.take_of_length_le (by rw [HM.out]; exact Nat.le_refl _)
      have hse := HSE.out
      have hqe := HQE.out
      have hall := HLE.out
      rw [htm] at hse hqe hall
      have HSE2 := Lib.hid hse
      have HQE2 := Lib.hid hqe
      have HALL := Lib.hid hall
      clear hse hqe hall htm
      by_cases hs0 : s = 0
      · subst hs0
        go_wp2_with fail
        refine bodyPost_ret (v := .tuple #[.agg #[.int .i64 0, .slice none 0 0, .slice none 0 0], .int .i64 1]) (by simp [results, Tryf.results15, go_sem, r0, r1, r2]) rfl ?_
        refine refused_post ws HB0.out ?_ _ _ _
        unfold clsF
        rw [if_neg (by rintro ⟨x, h1, h2⟩; have := HALL.out x h1; omega), if_pos HSE2.out]
      · have hse0 : ((s : Int) == 0) = false := beq_eq_false_iff_ne.2 (by omega)
        obtain ⟨l, hl⟩ : ∃ l, s.log2 = l := ⟨_, rfl⟩
        have KL := Lib.hid (zLog_any s (by omega) (s : Int) rfl)
        rw [hl] at KL
        have hll := Nat.log2_self_le (n := s) hs0
        have hlu := Nat.lt_log2_self (n := s)
        rw [hl] at hll hlu
        have hl18 : l ≤ 18 := by
          have h1 : 2 ^ l < 2 ^ 19 := by omega
          have := (Nat.pow_lt_pow_iff_right (a := 2) (by omega)).1 h1
          omega
        obtain ⟨P, hP⟩ : ∃ P, 2 ^ (l + 1) = P := ⟨_, rfl⟩
        have hP19 : P ≤ 2 ^ 19 := by rw [← hP]; exact Nat.pow_le_pow_right (by omega) (by omega)
        rw [hP] at hlu
        have HL := Lib.hid hl
        have HLL := Lib.hid hll
        have HP := Lib.hid hP
        have HS0 := Lib.hid hs0
        clear hl hll hP hs0
        go_wp2_with fail
        refine (KL.out _).mono ?_
        rintro e w2 ⟨rfl, rfl⟩
        go_upto_region 16 with (fail)
        obtain ⟨R, hR⟩ : ∃ R, P - s = R := ⟨_, rfl⟩
        have hR1 : 1 ≤ R := by omega
        have hv9 : wrap64 (wrap64 (2 ^ (l + 1)) - (s : Int)) = (R : Int) := by
          rw [pow_wrap (l + 1) (by omega), HP.out]
          unfold wrap64; omega
        rw [hv9]
        have HR := Lib.hid hR
        have HLU := Lib.hid hlu
        clear hv9 hR
        by_cases hl11 : 11 < l + 1
        · have hd : decide ((11 : Int) < (l : Int) + 1) = true := decide_eq_true (by omega)
          have HL11 := Lib.hid hl11
          clear hl11
          go_wp2_with fail
          refine bodyPost_ret (v := .tuple #[.agg #[.int .i64 0, .slice none 0 0, .slice none 0 0], .int .i64 1]) (by simp [results, Tryf.results15, go_sem, r0, r1, r2]) rfl ?_
          refine refused_post ws HB0.out ?_ _ _ _
          unfold clsF
          rw [if_neg (by rintro ⟨x, h1, h2⟩; have := HALL.out x h1; omega), HSE2.out, if_neg HS0.out, if_pos (.inl (by rw [HL.out]; exact HL11.out))]
        · have hd : decide ((11 : Int) < (l : Int) + 1) = false := decide_eq_false (by omega)
          have hRP : R ≤ P := by have := HR.out; omega
          obtain ⟨b, hb⟩ : ∃ b, R.log2 = b := ⟨_, rfl⟩
          have KR := Lib.hid (zLog_any R (by omega) (R : Int) rfl)
          rw [hb] at KR
          have hbl := Nat.log2_self_le (n := R) (by omega)
          rw [hb] at hbl
          have hb18 : b ≤ 19 := by
            have h1 : 2 ^ b < 2 ^ 20 := by omega
            have := (Nat.pow_lt_pow_iff_right (a := 2) (by omega)).1 h1
            omega
          have hrb := pow_wrap b (by omega)
          have HRB := Lib.hid hrb
          have HLB := Lib.hid hb
          have HL11 := Lib.hid hl11
          have HBL := Lib.hid hbl
          clear hb hbl hl11 hrb
          go_upto_if 57 with (go_at_call 21; refine (KR.out _).mono ?_; rintro e w2 ⟨rfl, rfl⟩)
          rw [HRB.out]
          obtain ⟨Q, hQ⟩ : ∃ Q, 2 ^ b = Q := ⟨_, rfl⟩
          rw [hQ]
          have HQ := Lib.hid hQ
          clear hQ
          by_cases hRQ : R = Q
          · have hbn : ((R : Int) != (Q : Int)) = false := by simp [hRQ]
            rw [hbn]
            have HRQ := Lib.hid hRQ
            clear hRQ hbn
            have HOe : Hid (OwnI (w0.alloc (.cells #[] 3)) w0.heap.size (.slice (some ⟨w0.heap.size, 0, none⟩) 0 0) []) := Lib.hid (OwnI.lit w0 (Nat.le_refl _))
            have HCe : Hid (∀ k, k < m → (w0.alloc (.cells #[] 3)).cell? ⟨G, k, none⟩ = some (.int .i64 (ws.getD k 0))) := Lib.hid (fun k hk => ((below_new w0 _).cell (p := ⟨G, k, none⟩) (by have := HZ0.out; show G < w0.heap.size; omega)).trans ((HB0.out.cell (p := ⟨G, k, none⟩) hG).trans (HCS.out k hk)))
            go_upto_region 19 with (first
              | (at_builtin; refine wpList_append_is _ rfl (.tmp 59) (.tmp 60) rfl w0.heap.size _ [] rfl HOe.out G m c rfl ws HM.out HCe.out (by simp; omega) (by simp) ?_; intro v1 w1 ho1 hb1; have HO1 := Lib.hid (ho1.alloc (.cells #[.int .i64 ((b : Int) + 1)] 3)); have HC1 : Hid ((w1.alloc (.cells #[.int .i64 ((b : Int) + 1)] 3)).cell? ⟨w1.heap.size, 0, none⟩ = some (.int .i64 ((b : Int) + 1))) := Lib.hid (cell_of_row _ _ 0 _ _ (0, 0) (heap_alloc_new _ _)); have HB1 := Lib.hid hb1; clear ho1 hb1)
              | (at_builtin; refine wpList_append_i _ rfl (.tmp 61) (.tmp 65) rfl w0.heap.size _ ([] ++ ws) rfl HO1.out w1.heap.size rfl ((b : Int) + 1) HC1.out (by rw [List.nil_append, HM.out]; omega) (by have := HB1.out.size; simp; simp at this; omega) ?_; intro v3 w3 ho3 hb3)
              | (go_at_call 21; refine (KR.out _).mono ?_; rintro e w2 ⟨rfl, rfl⟩))
            have hall : OwnI w3 w0.heap.size v3 (ws ++ [(b : Int) + 1]) := by have h := ho3; rwa [List.nil_append] at h
            obtain ⟨GA, cA, hvA, hGA1, hGA2, hGAc⟩ := hall.open_ (by simp)
            rw [show (ws ++ [(b : Int) + 1]).length = m + 1 by simp [HM.out]] at hvA hGAc
            subst hvA
            obtain ⟨al, hal⟩ : ∃ al, ws ++ [(b : Int) + 1] = al := ⟨_, rfl⟩
            rw [hal] at hGAc
            have hal0 : ∀ k, k < m + 1 → 0 ≤ al.getD k 0 := fun k hk => by
              have h1 := getD_mem al k (by rw [← hal]; simp [HM.out]; omega)
              rw [← hal] at h1
              rcases List.mem_append.1 h1 with h2 | h2
              · rw [hal] at h2; exact HWS.out _ h2
              · rw [hal] at h2; rw [List.mem_singleton.1 h2]; omega
            have hb30 : Below w.heap.size w w3 := (HB0.out.trans ((below_new w0 _).mono HB0.out.size)).trans ((HB1.out.mono (by have := HZ0.out; omega)).trans (((below_new w1 _).mono (by have := HB1.out.size; have := HZ0.out; simp at *; omega)).trans (hb3.mono (by have := HZ0.out; omega))))
            have hb03 : Below w0.heap.size w0 w3 := (below_new w0 _).trans (HB1.out.trans (((below_new w1 _).mono (by have := HB1.out.size; simp at this; omega)).trans hb3))
            have HB30 := Lib.hid hb30
            have HB03 := Lib.hid hb03
            have HAL0 := Lib.hid hal0
            have HGAC := Lib.hid hGAc
            have hs13 : w.heap.size < w3.heap.size := by have := hb03.size; have := HZ0.out; omega
            obtain ⟨wD, hwD⟩ : ∃ wD, w3.alloc (.cells #[.int .i64 ((l : Int) + 1), .slice none 0 0, .slice none 0 0] 31 (0, 0)) = wD := ⟨_, rfl⟩
            have hzD : wD.heap.size = w3.heap.size + 1 := by rw [← hwD]; simp
            have hCD : CodeN w3.heap.size ((l : Int) + 1) wD (1 * 310000) wD := by
              refine ⟨.slice none 0 0, .slice none 0 0, [], [], ⟨?_, OwnI.nil _ _, OwnI.nil _ _, ?_, Below.refl _ _, by omega⟩, by simp, by simp⟩
              · rw [← hwD]; exact heap_alloc_new _ _
              · intro k e; cases e
            have hbD : Below w3.heap.size w3 wD := by rw [← hwD]; exact below_new _ _
            have HZD := Lib.hid hzD
            have HWD := Lib.hid hwD
            have HCD := Lib.hid hCD
            have HBD := Lib.hid hbD
            have HGA2 := Lib.hid hGA2
            have HS13 := Lib.hid hs13
            clear hwD
            clear hall hal ho3 hb3 hal0 hb30 hb03 hGAc hzD hCD hbD hGA1 hGA2 hs13 r0 r1 r2 g0 g1 g2
            have hfin : (R = 1 ∨ R ≠ 1 ∧ q ≠ 0 ∨ R ≠ 1 ∧ q = 0) := by omega
            rcases hfin with hR1' | ⟨hR1', hq0⟩ | ⟨hR1', hq0⟩
            · have hR1e : ((R : Int) == 1) = true := by rw [hR1']; rfl
              have hq5 : ((q : Int) + 1 == 0) = false := beq_eq_false_iff_ne.2 (by omega)
              have HR1 := Lib.hid hR1'
              clear hR1'
              skip
              have hl10 : l ≤ 10 := by have := HL11.out; omega
              go_wp2_with fail
              rw [HWD.out]
              go_loopw [12] (RelK2 w3.heap.size ((l : Int) + 1) wD (l + 1)) (fun wv _ => l + 2 - (intOf wv).toNat)
              case atStart => exact ⟨1, Nat.le_refl _, by omega, rfl, HCD.out⟩
              case round =>
                obtain ⟨wt, hw1, hw2, rfl, hN⟩ := hrel
                have HN2 := Lib.hid hN
                clear hN
                by_cases hwt : wt ≤ l + 1
                · have hwti : (wt : Int) ≤ (l : Int) + 1 := by omega
                  go_wp2_with fail
                  obtain ⟨wo, rfl⟩ : ∃ wo : World, wo = wr := ⟨_, rfl⟩
                  go_loopw [80] (RelK3 w3.heap.size ((l : Int) + 1) wD wt (m + 1)) (fun sv _ => m + 1 - (intOf sv).toNat)
                  case atStart => exact ⟨0, Nat.zero_le _, rfl, HN2.out.mono (by omega)⟩
                  case round =>
                    obtain ⟨t, ht, rfl, hN⟩ := hrel
                    have HN3 := Lib.hid hN
                    have hbr : Below w3.heap.size wD wr := by obtain ⟨_, _, _, _, h, _⟩ := hN; exact h.2.2.2.2.1
                    have HBR := Lib.hid hbr
                    clear hN hbr
                    by_cases htm : t < m + 1
                    · have htmi : (t : Int) < (m : Int) + 1 := by omega
                      obtain ⟨x, hx⟩ : ∃ x, al.getD t 0 = x := ⟨_, rfl⟩
                      have hx0 : 0 ≤ x := by rw [← hx]; exact HAL0.out t htm
                      have hk : wr.cell? ⟨GA, t, none⟩ = some (.int .i64 x) := by
                        rw [← hx]
                        exact (HBR.out.cell (p := ⟨GA, t, none⟩) HGA2.out).trans ((HBD.out.cell (p := ⟨GA, t, none⟩) HGA2.out).trans (HGAC.out t htm))
                      have KE := Lib.hid (zEntries_any x.toNat wt wr hw1 (by omega) x (wt : Nat) (by omega) rfl)
                      clear hx
                      go_wp2_with fail
                      refine KE.out.mono ?_
                      rintro e w4 ⟨⟨k, hk1024, rfl⟩, rfl⟩
                      go_wp2_with fail
                      obtain ⟨wi, rfl⟩ : ∃ wi : World, wi = wr := ⟨_, rfl⟩
                      go_loopw [88] (RelK4 w3.heap.size ((l : Int) + 1) wD (wt * 310000 + t * 1024) k) (fun tv _ => k - (intOf tv).toNat)
                      case atStart => exact ⟨0, Nat.zero_le _, rfl, HN3.out.mono (by omega)⟩
                      case round =>
                        obtain ⟨j, hj, rfl, hN⟩ := hrel
                        by_cases hjk : j < k
                        · obtain ⟨sv, bv, sl, bl, hC, hsl, hbl⟩ := hN
                          have c1 : wr.cell? ⟨w3.heap.size, 1, none⟩ = some sv := cell_of_row wr _ 1 _ _ (0, 0) hC.1
                          have HC4 := Lib.hid (hC.alloc (.cells #[.int .i64 (t : Nat)] 3))
                          have hc4 : Hid ((wr.alloc (.cells #[.int .i64 (t : Nat)] 3)).cell? ⟨wr.heap.size, 0, none⟩ = some (.int .i64 (t : Nat))) := Lib.hid (cell_of_row _ _ 0 _ _ (0, 0) (heap_alloc_new _ _))
                          have HSLL := Lib.hid hsl
                          have HBLL := Lib.hid hbl
                          have hDs : w3.heap.size < wr.heap.size := hC.2.2.2.2.2
                          clear hC hsl hbl
                          go_upto_region 31 with (at_builtin; refine wpList_append_i2 _ rfl (.tmp 91) (.tmp 93) rfl (w3.heap.size + 1) sv sl rfl HC4.out.2.1 wr.heap.size rfl (t : Nat) hc4.out (by have := HSLL.out; omega) (by simp; omega) ?_; intro v5 w5 ho5 hg5 hv5; obtain ⟨A5, c5, n5, rfl⟩ := ho5.lenv; have HC5 := Lib.hid (HC4.out.app1 ho5 hg5 hv5); have hr5 : w5.heap[w3.heap.size]? = some (.cells #[.int .i64 ((l : Int) + 1), sv, bv] 31 (0, 0)) := (hg5.block _ HC4.out.2.2.2.2.2 (fun e => by have := (HC4.out.2.1.block _ e.symm).1; omega)).trans HC4.out.1; have c15 : w5.cell? ⟨w3.heap.size, 1, none⟩ = some sv := cell_of_row w5 _ 1 _ _ (0, 0) hr5; have f15 : w5.frozen? ⟨w3.heap.size, 1, none⟩ = false := frozen_of_row w5 _ 1 _ _ hr5; clear ho5 hg5 hv5 hr5)
                          obtain ⟨w6, hw6⟩ : ∃ w6, w5.setCell ⟨w3.heap.size, 1, none⟩ (.slice A5 n5 c5) = w6 := ⟨_, rfl⟩
                          rw [hw6] at HC5
                          rw [hw6]
                          have c26 : w6.cell? ⟨w3.heap.size, 2, none⟩ = some bv := cell_of_row w6 _ 2 _ _ (0, 0) HC5.out.1
                          have HC6 := Lib.hid (HC5.out.alloc (.cells #[.int .i64 ((l : Int) + 1 + 1 - (wt : Nat))] 3))
                          have hc6 : Hid ((w6.alloc (.cells #[.int .i64 ((l : Int) + 1 + 1 - (wt : Nat))] 3)).cell? ⟨w6.heap.size, 0, none⟩ = some (.int .i64 ((l : Int) + 1 + 1 - (wt : Nat)))) := Lib.hid (cell_of_row _ _ 0 _ _ (0, 0) (heap_alloc_new _ _))
                          have hDs6 : w3.heap.size < w6.heap.size := HC5.out.2.2.2.2.2
                          clear hw6 c1 c15 f15
                          go_upto_region 32 with (at_builtin; refine wpList_append_i2 _ rfl (.tmp 97) (.tmp 102) rfl (w3.heap.size + 1) bv bl rfl HC6.out.2.2.1 w6.heap.size rfl ((l : Int) + 1 + 1 - (wt : Nat)) hc6.out (by have := HBLL.out; omega) (by simp; omega) ?_; intro v7 w7 ho7 hg7 hv7; obtain ⟨A7, c7, n7, rfl⟩ := ho7.lenv; have HC7 := Lib.hid (HC6.out.app2 ho7 hg7 hv7); have hr7 : w7.heap[w3.heap.size]? = some (.cells #[.int .i64 ((l : Int) + 1), .slice A5 n5 c5, bv] 31 (0, 0)) := (hg7.block _ HC6.out.2.2.2.2.2 (fun e => by have := (HC6.out.2.2.1.block _ e.symm).1; omega)).trans HC6.out.1; have c27 : w7.cell? ⟨w3.heap.size, 2, none⟩ = some bv := cell_of_row w7 _ 2 _ _ (0, 0) hr7; have f27 : w7.frozen? ⟨w3.heap.size, 2, none⟩ = false := frozen_of_row w7 _ 2 _ _ hr7; clear ho7 hg7 hv7 hr7)
                          go_wp2_with fail
                          refine ⟨⟨j + 1, by omega, by go_num, _, _, _, _, HC7.out, by rw [List.length_append]; have := HSLL.out; simp; omega, by rw [List.length_append]; have := HBLL.out; simp; omega⟩, by simp [intOf]; omega⟩
                        · obtain rfl : k = j := by omega
                          have HN5 := Lib.hid hN
                          clear hN
                          go_wp2_with fail
                          exact ⟨⟨t + 1, by omega, by go_num, HN5.out.mono (by omega)⟩, by simp [intOf]; omega⟩
                    · obtain rfl : t = m + 1 := by omega
                      go_wp2_with fail
                      exact ⟨⟨wt + 1, by omega, by omega, by go_num, HN3.out.mono (by omega)⟩, by simp [intOf]; omega⟩
                · obtain rfl : wt = l + 2 := by omega
                  obtain ⟨sv, bv, sl, bl, hC, hsl, hbl⟩ := HN2.out
                  obtain ⟨A8, c8, n8, rfl⟩ := hC.2.1.lenv
                  obtain ⟨A9, c9, n9, rfl⟩ := hC.2.2.1.lenv
                  have c0 : wr.cell? ⟨w3.heap.size, 0, none⟩ = some (.int .i64 ((l : Int) + 1)) := cell_of_row wr _ 0 _ _ (0, 0) hC.1
                  have c1 : wr.cell? ⟨w3.heap.size, 1, none⟩ = some (.slice A8 n8 c8) := cell_of_row wr _ 1 _ _ (0, 0) hC.1
                  have c2 : wr.cell? ⟨w3.heap.size, 2, none⟩ = some (.slice A9 n9 c9) := cell_of_row wr _ 2 _ _ (0, 0) hC.1
                  have hrr : wr.heap[w.heap.size]? = some (.cells #[.int .i64 0, .slice none 0 0, .slice none 0 0] 31 (0, 0)) := (hC.2.2.2.2.1.block _ HS13.out).trans ((HBD.out.block _ HS13.out).trans ((HB03.out.block _ (by have := HZ0.out; omega)).trans HR0.out))
                  have HRR := Lib.hid hrr
                  have hbw : Below w.heap.size w wr := HB30.out.trans ((HBD.out.mono (Nat.le_of_lt HS13.out)).trans (hC.2.2.2.2.1.mono (Nat.le_of_lt HS13.out)))
                  have HBW := Lib.hid hbw
                  clear hC hsl hbl hrr hbw
                  go_upto_region 36 with (fail)
                  have r0 : wr.cell? ⟨w.heap.size, 0, none⟩ = some (.int .i64 0) := cell_of_row wr _ 0 _ _ (0, 0) HRR.out
                  have r1 : wr.cell? ⟨w.heap.size, 1, none⟩ = some (.slice none 0 0) := cell_of_row wr _ 1 _ _ (0, 0) HRR.out
                  have r2 : wr.cell? ⟨w.heap.size, 2, none⟩ = some (.slice none 0 0) := cell_of_row wr _ 2 _ _ (0, 0) HRR.out
                  have g0 : wr.frozen? ⟨w.heap.size, 0, none⟩ = false := frozen_of_row wr _ 0 _ _ HRR.out
                  have g1 : wr.frozen? ⟨w.heap.size, 1, none⟩ = false := frozen_of_row wr _ 1 _ _ HRR.out
                  have g2 : wr.frozen? ⟨w.heap.size, 2, none⟩ = false := frozen_of_row wr _ 2 _ _ HRR.out
                  go_wp2_with fail
                  refine bodyPost_ret (v := .tuple #[.agg #[.int .i64 ((l : Int) + 1), .slice A8 n8 c8, .slice A9 n9 c9], .int .i64 0]) (by simp [results, Tryf.results15, go_sem, r0, r1, r2]) rfl ?_
                  refine ⟨⟨(l : Int) + 1, A8, n8, c8, A9, n9, c9, ?_⟩, ((HBW.out.setCell (Nat.le_refl _) _).setCell (Nat.le_refl _) _).setCell (Nat.le_refl _) _⟩
                  have hcls : clsF ws = 0 := by
                    have hnl : ¬ (11 < (sumW ws).log2 + 1 ∨ 2 ^ ((sumW ws).log2 + 1) - sumW ws ≠ 2 ^ (2 ^ ((sumW ws).log2 + 1) - sumW ws).log2) := by
                      rw [HSE2.out, HL.out, HP.out, HR.out, HLB.out, HQ.out]
                      have h1 := HL11.out; have h2 := HRQ.out
                      rintro (h | h)
                      · exact h1 h
                      · exact h h2
                    unfold clsF
                    rw [if_neg (by rintro ⟨x, h1, h2⟩; have := HALL.out x h1; omega), if_neg (by rw [HSE2.out]; exact HS0.out), if_neg hnl, HSE2.out, HL.out, HP.out, HR.out, HQE2.out]
                    rw [if_pos HR1.out, if_neg (by omega)]
                  rw [hcls]
                  rfl
            · have hR1e : ((R : Int) == 1) = false := beq_eq_false_iff_ne.2 (by omega)
              have hq5 : ((q : Int) == 0) = false := beq_eq_false_iff_ne.2 (by omega)
              have HR1 := Lib.hid hR1'
              clear hR1'
              have HQ0 := Lib.hid hq0; clear hq0
              have hl10 : l ≤ 10 := by have := HL11.out; omega
              go_wp2_with fail
              rw [HWD.out]
              go_loopw [12] (RelK2 w3.heap.size ((l : Int) + 1) wD (l + 1)) (fun wv _ => l + 2 - (intOf wv).toNat)
              case atStart => exact ⟨1, Nat.le_refl _, by omega, rfl, HCD.out⟩
              case round =>
                obtain ⟨wt, hw1, hw2, rfl, hN⟩ := hrel
                have HN2 := Lib.hid hN
                clear hN
                by_cases hwt : wt ≤ l + 1
                · have hwti : (wt : Int) ≤ (l : Int) + 1 := by omega
                  go_wp2_with fail
                  obtain ⟨wo, rfl⟩ : ∃ wo : World, wo = wr := ⟨_, rfl⟩
                  go_loopw [80] (RelK3 w3.heap.size ((l : Int) + 1) wD wt (m + 1)) (fun sv _ => m + 1 - (intOf sv).toNat)
                  case atStart => exact ⟨0, Nat.zero_le _, rfl, HN2.out.mono (by omega)⟩
                  case round =>
                    obtain ⟨t, ht, rfl, hN⟩ := hrel
                    have HN3 := Lib.hid hN
                    have hbr : Below w3.heap.size wD wr := by obtain ⟨_, _, _, _, h, _⟩ := hN; exact h.2.2.2.2.1
                    have HBR := Lib.hid hbr
                    clear hN hbr
                    by_cases htm : t < m + 1
                    · have htmi : (t : Int) < (m : Int) + 1 := by omega
                      obtain ⟨x, hx⟩ : ∃ x, al.getD t 0 = x := ⟨_, rfl⟩
                      have hx0 : 0 ≤ x := by rw [← hx]; exact HAL0.out t htm
                      have hk : wr.cell? ⟨GA, t, none⟩ = some (.int .i64 x) := by
                        rw [← hx]
                        exact (HBR.out.cell (p := ⟨GA, t, none⟩) HGA2.out).trans ((HBD.out.cell (p := ⟨GA, t, none⟩) HGA2.out).trans (HGAC.out t htm))
                      have KE := Lib.hid (zEntries_any x.toNat wt wr hw1 (by omega) x (wt : Nat) (by omega) rfl)
                      clear hx
                      go_wp2_with fail
                      refine KE.out.mono ?_
                      rintro e w4 ⟨⟨k, hk1024, rfl⟩, rfl⟩
                      go_wp2_with fail
                      obtain ⟨wi, rfl⟩ : ∃ wi : World, wi = wr := ⟨_, rfl⟩
                      go_loopw [88] (RelK4 w3.heap.size ((l : Int) + 1) wD (wt * 310000 + t * 1024) k) (fun tv _ => k - (intOf tv).toNat)
                      case atStart => exact ⟨0, Nat.zero_le _, rfl, HN3.out.mono (by omega)⟩
                      case round =>
                        obtain ⟨j, hj, rfl, hN⟩ := hrel
                        by_cases hjk : j < k
                        · obtain ⟨sv, bv, sl, bl, hC, hsl, hbl⟩ := hN
                          have c1 : wr.cell? ⟨w3.heap.size, 1, none⟩ = some sv := cell_of_row wr _ 1 _ _ (0, 0) hC.1
                          have HC4 := Lib.hid (hC.alloc (.cells #[.int .i64 (t : Nat)] 3))
                          have hc4 : Hid ((wr.alloc (.cells #[.int .i64 (t : Nat)] 3)).cell? ⟨wr.heap.size, 0, none⟩ = some (.int .i64 (t : Nat))) := Lib.hid (cell_of_row _ _ 0 _ _ (0, 0) (heap_alloc_new _ _))
                          have HSLL := Lib.hid hsl
                          have HBLL := Lib.hid hbl
                          have hDs : w3.heap.size < wr.heap.size := hC.2.2.2.2.2
                          clear hC hsl hbl
                          go_upto_region 31 with (at_builtin; refine wpList_append_i2 _ rfl (.tmp 91) (.tmp 93) rfl (w3.heap.size + 1) sv sl rfl HC4.out.2.1 wr.heap.size rfl (t : Nat) hc4.out (by have := HSLL.out; omega) (by simp; omega) ?_; intro v5 w5 ho5 hg5 hv5; obtain ⟨A5, c5, n5, rfl⟩ := ho5.lenv; have HC5 := Lib.hid (HC4.out.app1 ho5 hg5 hv5); have hr5 : w5.heap[w3.heap.size]? = some (.cells #[.int .i64 ((l : Int) + 1), sv, bv] 31 (0, 0)) := (hg5.block _ HC4.out.2.2.2.2.2 (fun e => by have := (HC4.out.2.1.block _ e.symm).1; omega)).trans HC4.out.1; have c15 : w5.cell? ⟨w3.heap.size, 1, none⟩ = some sv := cell_of_row w5 _ 1 _ _ (0, 0) hr5; have f15 : w5.frozen? ⟨w3.heap.size, 1, none⟩ = false := frozen_of_row w5 _ 1 _ _ hr5; clear ho5 hg5 hv5 hr5)
                          obtain ⟨w6, hw6⟩ : ∃ w6, w5.setCell ⟨w3.heap.size, 1, none⟩ (.slice A5 n5 c5) = w6 := ⟨_, rfl⟩
                          rw [hw6] at HC5
                          rw [hw6]
                          have c26 : w6.cell? ⟨w3.heap.size, 2, none⟩ = some bv := cell_of_row w6 _ 2 _ _ (0, 0) HC5.out.1
                          have HC6 := Lib.hid (HC5.out.alloc (.cells #[.int .i64 ((l : Int) + 1 + 1 - (wt : Nat))] 3))
                          have hc6 : Hid ((w6.alloc (.cells #[.int .i64 ((l : Int) + 1 + 1 - (wt : Nat))] 3)).cell? ⟨w6.heap.size, 0, none⟩ = some (.int .i64 ((l : Int) + 1 + 1 - (wt : Nat)))) := Lib.hid (cell_of_row _ _ 0 _ _ (0, 0) (heap_alloc_new _ _))
                          have hDs6 : w3.heap.size < w6.heap.size := HC5.out.2.2.2.2.2
                          clear hw6 c1 c15 f15
                          go_upto_region 32 with (at_builtin; refine wpList_append_i2 _ rfl (.tmp 97) (.tmp 102) rfl (w3.heap.size + 1) bv bl rfl HC6.out.2.2.1 w6.heap.size rfl ((l : Int) + 1 + 1 - (wt : Nat)) hc6.out (by have := HBLL.out; omega) (by simp; omega) ?_; intro v7 w7 ho7 hg7 hv7; obtain ⟨A7, c7, n7, rfl⟩ := ho7.lenv; have HC7 := Lib.hid (HC6.out.app2 ho7 hg7 hv7); have hr7 : w7.heap[w3.heap.size]? = some (.cells #[.int .i64 ((l : Int) + 1), .slice A5 n5 c5, bv] 31 (0, 0)) := (hg7.block _ HC6.out.2.2.2.2.2 (fun e => by have := (HC6.out.2.2.1.block _ e.symm).1; omega)).trans HC6.out.1; have c27 : w7.cell? ⟨w3.heap.size, 2, none⟩ = some bv := cell_of_row w7 _ 2 _ _ (0, 0) hr7; have f27 : w7.frozen? ⟨w3.heap.size, 2, none⟩ = false := frozen_of_row w7 _ 2 _ _ hr7; clear ho7 hg7 hv7 hr7)
                          go_wp2_with fail
                          refine ⟨⟨j + 1, by omega, by go_num, _, _, _, _, HC7.out, by rw [List.length_append]; have := HSLL.out; simp; omega, by rw [List.length_append]; have := HBLL.out; simp; omega⟩, by simp [intOf]; omega⟩
                        · obtain rfl : k = j := by omega
                          have HN5 := Lib.hid hN
                          clear hN
                          go_wp2_with fail
                          exact ⟨⟨t + 1, by omega, by go_num, HN5.out.mono (by omega)⟩, by simp [intOf]; omega⟩
                    · obtain rfl : t = m + 1 := by omega
                      go_wp2_with fail
                      exact ⟨⟨wt + 1, by omega, by omega, by go_num, HN3.out.mono (by omega)⟩, by simp [intOf]; omega⟩
                · obtain rfl : wt = l + 2 := by omega
                  obtain ⟨sv, bv, sl, bl, hC, hsl, hbl⟩ := HN2.out
                  obtain ⟨A8, c8, n8, rfl⟩ := hC.2.1.lenv
                  obtain ⟨A9, c9, n9, rfl⟩ := hC.2.2.1.lenv
                  have c0 : wr.cell? ⟨w3.heap.size, 0, none⟩ = some (.int .i64 ((l : Int) + 1)) := cell_of_row wr _ 0 _ _ (0, 0) hC.1
                  have c1 : wr.cell? ⟨w3.heap.size, 1, none⟩ = some (.slice A8 n8 c8) := cell_of_row wr _ 1 _ _ (0, 0) hC.1
                  have c2 : wr.cell? ⟨w3.heap.size, 2, none⟩ = some (.slice A9 n9 c9) := cell_of_row wr _ 2 _ _ (0, 0) hC.1
                  have hrr : wr.heap[w.heap.size]? = some (.cells #[.int .i64 0, .slice none 0 0, .slice none 0 0] 31 (0, 0)) := (hC.2.2.2.2.1.block _ HS13.out).trans ((HBD.out.block _ HS13.out).trans ((HB03.out.block _ (by have := HZ0.out; omega)).trans HR0.out))
                  have HRR := Lib.hid hrr
                  have hbw : Below w.heap.size w wr := HB30.out.trans ((HBD.out.mono (Nat.le_of_lt HS13.out)).trans (hC.2.2.2.2.1.mono (Nat.le_of_lt HS13.out)))
                  have HBW := Lib.hid hbw
                  clear hC hsl hbl hrr hbw
                  go_upto_region 36 with (fail)
                  have r0 : wr.cell? ⟨w.heap.size, 0, none⟩ = some (.int .i64 0) := cell_of_row wr _ 0 _ _ (0, 0) HRR.out
                  have r1 : wr.cell? ⟨w.heap.size, 1, none⟩ = some (.slice none 0 0) := cell_of_row wr _ 1 _ _ (0, 0) HRR.out
                  have r2 : wr.cell? ⟨w.heap.size, 2, none⟩ = some (.slice none 0 0) := cell_of_row wr _ 2 _ _ (0, 0) HRR.out
                  have g0 : wr.frozen? ⟨w.heap.size, 0, none⟩ = false := frozen_of_row wr _ 0 _ _ HRR.out
                  have g1 : wr.frozen? ⟨w.heap.size, 1, none⟩ = false := frozen_of_row wr _ 1 _ _ HRR.out
                  have g2 : wr.frozen? ⟨w.heap.size, 2, none⟩ = false := frozen_of_row wr _ 2 _ _ HRR.out
                  go_wp2_with fail
                  refine bodyPost_ret (v := .tuple #[.agg #[.int .i64 ((l : Int) + 1), .slice A8 n8 c8, .slice A9 n9 c9], .int .i64 0]) (by simp [results, Tryf.results15, go_sem, r0, r1, r2]) rfl ?_
                  refine ⟨⟨(l : Int) + 1, A8, n8, c8, A9, n9, c9, ?_⟩, ((HBW.out.setCell (Nat.le_refl _) _).setCell (Nat.le_refl _) _).setCell (Nat.le_refl _) _⟩
                  have hcls : clsF ws = 0 := by
                    have hnl : ¬ (11 < (sumW ws).log2 + 1 ∨ 2 ^ ((sumW ws).log2 + 1) - sumW ws ≠ 2 ^ (2 ^ ((sumW ws).log2 + 1) - sumW ws).log2) := by
                      rw [HSE2.out, HL.out, HP.out, HR.out, HLB.out, HQ.out]
                      have h1 := HL11.out; have h2 := HRQ.out
                      rintro (h | h)
                      · exact h1 h
                      · exact h h2
                    unfold clsF
                    rw [if_neg (by rintro ⟨x, h1, h2⟩; have := HALL.out x h1; omega), if_neg (by rw [HSE2.out]; exact HS0.out), if_neg hnl, HSE2.out, HL.out, HP.out, HR.out, HQE2.out]
                    rw [if_neg HR1.out, if_neg (by have := HQ0.out; omega)]
                  rw [hcls]
                  rfl
            · have hR1e : ((R : Int) == 1) = false := beq_eq_false_iff_ne.2 (by omega)
              have hq5 : ((q : Int) == 0) = true := by rw [hq0]; rfl
              have HR1 := Lib.hid hR1'
              clear hR1'
              have HQ0 := Lib.hid hq0; clear hq0
              have hl10 : l ≤ 10 := by have := HL11.out; omega
              go_wp2_with fail
              rw [HWD.out]
              go_loopw [12] (RelK2 w3.heap.size ((l : Int) + 1) wD (l + 1)) (fun wv _ => l + 2 - (intOf wv).toNat)
              case atStart => exact ⟨1, Nat.le_refl _, by omega, rfl, HCD.out⟩
              case round =>
                obtain ⟨wt, hw1, hw2, rfl, hN⟩ := hrel
                have HN2 := Lib.hid hN
                clear hN
                by_cases hwt : wt ≤ l + 1
                · have hwti : (wt : Int) ≤ (l : Int) + 1 := by omega
                  go_wp2_with fail
                  obtain ⟨wo, rfl⟩ : ∃ wo : World, wo = wr := ⟨_, rfl⟩
                  go_loopw [80] (RelK3 w3.heap.size ((l : Int) + 1) wD wt (m + 1)) (fun sv _ => m + 1 - (intOf sv).toNat)
                  case atStart => exact ⟨0, Nat.zero_le _, rfl, HN2.out.mono (by omega)⟩
                  case round =>
                    obtain ⟨t, ht, rfl, hN⟩ := hrel
                    have HN3 := Lib.hid hN
                    have hbr : Below w3.heap.size wD wr := by obtain ⟨_, _, _, _, h, _⟩ := hN; exact h.2.2.2.2.1
                    have HBR := Lib.hid hbr
                    clear hN hbr
                    by_cases htm : t < m + 1
                    · have htmi : (t : Int) < (m : Int) + 1 := by omega
                      obtain ⟨x, hx⟩ : ∃ x, al.getD t 0 = x := ⟨_, rfl⟩
                      have hx0 : 0 ≤ x := by rw [← hx]; exact HAL0.out t htm
                      have hk : wr.cell? ⟨GA, t, none⟩ = some (.int .i64 x) := by
                        rw [← hx]
                        exact (HBR.out.cell (p := ⟨GA, t, none⟩) HGA2.out).trans ((HBD.out.cell (p := ⟨GA, t, none⟩) HGA2.out).trans (HGAC.out t htm))
                      have KE := Lib.hid (zEntries_any x.toNat wt wr hw1 (by omega) x (wt : Nat) (by omega) rfl)
                      clear hx
                      go_wp2_with fail
                      refine KE.out.mono ?_
                      rintro e w4 ⟨⟨k, hk1024, rfl⟩, rfl⟩
                      go_wp2_with fail
                      obtain ⟨wi, rfl⟩ : ∃ wi : World, wi = wr := ⟨_, rfl⟩
                      go_loopw [88] (RelK4 w3.heap.size ((l : Int) + 1) wD (wt * 310000 + t * 1024) k) (fun tv _ => k - (intOf tv).toNat)
                      case atStart => exact ⟨0, Nat.zero_le _, rfl, HN3.out.mono (by omega)⟩
                      case round =>
                        obtain ⟨j, hj, rfl, hN⟩ := hrel
                        by_cases hjk : j < k
                        · obtain ⟨sv, bv, sl, bl, hC, hsl, hbl⟩ := hN
                          have c1 : wr.cell? ⟨w3.heap.size, 1, none⟩ = some sv := cell_of_row wr _ 1 _ _ (0, 0) hC.1
                          have HC4 := Lib.hid (hC.alloc (.cells #[.int .i64 (t : Nat)] 3))
                          have hc4 : Hid ((wr.alloc (.cells #[.int .i64 (t : Nat)] 3)).cell? ⟨wr.heap.size, 0, none⟩ = some (.int .i64 (t : Nat))) := Lib.hid (cell_of_row _ _ 0 _ _ (0, 0) (heap_alloc_new _ _))
                          have HSLL := Lib.hid hsl
                          have HBLL := Lib.hid hbl
                          have hDs : w3.heap.size < wr.heap.size := hC.2.2.2.2.2
                          clear hC hsl hbl
                          go_upto_region 31 with (at_builtin; refine wpList_append_i2 _ rfl (.tmp 91) (.tmp 93) rfl (w3.heap.size + 1) sv sl rfl HC4.out.2.1 wr.heap.size rfl (t : Nat) hc4.out (by have := HSLL.out; omega) (by simp; omega) ?_; intro v5 w5 ho5 hg5 hv5; obtain ⟨A5, c5, n5, rfl⟩ := ho5.lenv; have HC5 := Lib.hid (HC4.out.app1 ho5 hg5 hv5); have hr5 : w5.heap[w3.heap.size]? = some (.cells #[.int .i64 ((l : Int) + 1), sv, bv] 31 (0, 0)) := (hg5.block _ HC4.out.2.2.2.2.2 (fun e => by have := (HC4.out.2.1.block _ e.symm).1; omega)).trans HC4.out.1; have c15 : w5.cell? ⟨w3.heap.size, 1, none⟩ = some sv := cell_of_row w5 _ 1 _ _ (0, 0) hr5; have f15 : w5.frozen? ⟨w3.heap.size, 1, none⟩ = false := frozen_of_row w5 _ 1 _ _ hr5; clear ho5 hg5 hv5 hr5)
                          obtain ⟨w6, hw6⟩ : ∃ w6, w5.setCell ⟨w3.heap.size, 1, none⟩ (.slice A5 n5 c5) = w6 := ⟨_, rfl⟩
                          rw [hw6] at HC5
                          rw [hw6]
                          have c26 : w6.cell? ⟨w3.heap.size, 2, none⟩ = some bv := cell_of_row w6 _ 2 _ _ (0, 0) HC5.out.1
                          have HC6 := Lib.hid (HC5.out.alloc (.cells #[.int .i64 ((l : Int) + 1 + 1 - (wt : Nat))] 3))
                          have hc6 : Hid ((w6.alloc (.cells #[.int .i64 ((l : Int) + 1 + 1 - (wt : Nat))] 3)).cell? ⟨w6.heap.size, 0, none⟩ = some (.int .i64 ((l : Int) + 1 + 1 - (wt : Nat)))) := Lib.hid (cell_of_row _ _ 0 _ _ (0, 0) (heap_alloc_new _ _))
                          have hDs6 : w3.heap.size < w6.heap.size := HC5.out.2.2.2.2.2
                          clear hw6 c1 c15 f15
                          go_upto_region 32 with (at_builtin; refine wpList_append_i2 _ rfl (.tmp 97) (.tmp 102) rfl (w3.heap.size + 1) bv bl rfl HC6.out.2.2.1 w6.heap.size rfl ((l : Int) + 1 + 1 - (wt : Nat)) hc6.out (by have := HBLL.out; omega) (by simp; omega) ?_; intro v7 w7 ho7 hg7 hv7; obtain ⟨A7, c7, n7, rfl⟩ := ho7.lenv; have HC7 := Lib.hid (HC6.out.app2 ho7 hg7 hv7); have hr7 : w7.heap[w3.heap.size]? = some (.cells #[.int .i64 ((l : Int) + 1), .slice A5 n5 c5, bv] 31 (0, 0)) := (hg7.block _ HC6.out.2.2.2.2.2 (fun e => by have := (HC6.out.2.2.1.block _ e.symm).1; omega)).trans HC6.out.1; have c27 : w7.cell? ⟨w3.heap.size, 2, none⟩ = some bv := cell_of_row w7 _ 2 _ _ (0, 0) hr7; have f27 : w7.frozen? ⟨w3.heap.size, 2, none⟩ = false := frozen_of_row w7 _ 2 _ _ hr7; clear ho7 hg7 hv7 hr7)
                          go_wp2_with fail
                          refine ⟨⟨j + 1, by omega, by go_num, _, _, _, _, HC7.out, by rw [List.length_append]; have := HSLL.out; simp; omega, by rw [List.length_append]; have := HBLL.out; simp; omega⟩, by simp [intOf]; omega⟩
                        · obtain rfl : k = j := by omega
                          have HN5 := Lib.hid hN
                          clear hN
                          go_wp2_with fail
                          exact ⟨⟨t + 1, by omega, by go_num, HN5.out.mono (by omega)⟩, by simp [intOf]; omega⟩
                    · obtain rfl : t = m + 1 := by omega
                      go_wp2_with fail
                      exact ⟨⟨wt + 1, by omega, by omega, by go_num, HN3.out.mono (by omega)⟩, by simp [intOf]; omega⟩
                · obtain rfl : wt = l + 2 := by omega
                  obtain ⟨sv, bv, sl, bl, hC, hsl, hbl⟩ := HN2.out
                  obtain ⟨A8, c8, n8, rfl⟩ := hC.2.1.lenv
                  obtain ⟨A9, c9, n9, rfl⟩ := hC.2.2.1.lenv
                  have c0 : wr.cell? ⟨w3.heap.size, 0, none⟩ = some (.int .i64 ((l : Int) + 1)) := cell_of_row wr _ 0 _ _ (0, 0) hC.1
                  have c1 : wr.cell? ⟨w3.heap.size, 1, none⟩ = some (.slice A8 n8 c8) := cell_of_row wr _ 1 _ _ (0, 0) hC.1
                  have c2 : wr.cell? ⟨w3.heap.size, 2, none⟩ = some (.slice A9 n9 c9) := cell_of_row wr _ 2 _ _ (0, 0) hC.1
                  have hrr : wr.heap[w.heap.size]? = some (.cells #[.int .i64 0, .slice none 0 0, .slice none 0 0] 31 (0, 0)) := (hC.2.2.2.2.1.block _ HS13.out).trans ((HBD.out.block _ HS13.out).trans ((HB03.out.block _ (by have := HZ0.out; omega)).trans HR0.out))
                  have HRR := Lib.hid hrr
                  have hbw : Below w.heap.size w wr := HB30.out.trans ((HBD.out.mono (Nat.le_of_lt HS13.out)).trans (hC.2.2.2.2.1.mono (Nat.le_of_lt HS13.out)))
                  have HBW := Lib.hid hbw
                  clear hC hsl hbl hrr hbw
                  go_upto_region 35 with (fail)
                  have r0 : wr.cell? ⟨w.heap.size, 0, none⟩ = some (.int .i64 0) := cell_of_row wr _ 0 _ _ (0, 0) HRR.out
                  have r1 : wr.cell? ⟨w.heap.size, 1, none⟩ = some (.slice none 0 0) := cell_of_row wr _ 1 _ _ (0, 0) HRR.out
                  have r2 : wr.cell? ⟨w.heap.size, 2, none⟩ = some (.slice none 0 0) := cell_of_row wr _ 2 _ _ (0, 0) HRR.out
                  have g0 : wr.frozen? ⟨w.heap.size, 0, none⟩ = false := frozen_of_row wr _ 0 _ _ HRR.out
                  have g1 : wr.frozen? ⟨w.heap.size, 1, none⟩ = false := frozen_of_row wr _ 1 _ _ HRR.out
                  have g2 : wr.frozen? ⟨w.heap.size, 2, none⟩ = false := frozen_of_row wr _ 2 _ _ HRR.out
                  go_wp2_with fail
                  refine bodyPost_ret (v := .tuple #[.agg #[.int .i64 ((l : Int) + 1), .slice A8 n8 c8, .slice A9 n9 c9], .int .i64 2]) (by simp [results, Tryf.results15, go_sem, r0, r1, r2]) rfl ?_
                  refine ⟨⟨(l : Int) + 1, A8, n8, c8, A9, n9, c9, ?_⟩, ((HBW.out.setCell (Nat.le_refl _) _).setCell (Nat.le_refl _) _).setCell (Nat.le_refl _) _⟩
                  have hcls : clsF ws = 2 := by
                    have hnl : ¬ (11 < (sumW ws).log2 + 1 ∨ 2 ^ ((sumW ws).log2 + 1) - sumW ws ≠ 2 ^ (2 ^ ((sumW ws).log2 + 1) - sumW ws).log2) := by
                      rw [HSE2.out, HL.out, HP.out, HR.out, HLB.out, HQ.out]
                      have h1 := HL11.out; have h2 := HRQ.out
                      rintro (h | h)
                      · exact h1 h
                      · exact h h2
                    unfold clsF
                    rw [if_neg (by rintro ⟨x, h1, h2⟩; have := HALL.out x h1; omega), if_neg (by rw [HSE2.out]; exact HS0.out), if_neg hnl, HSE2.out, HL.out, HP.out, HR.out, HQE2.out]
                    rw [if_neg HR1.out, if_pos (by have := HQ0.out; omega)]
                  rw [hcls]
                  rfl
          · have hbn : ((R : Int) != (Q : Int)) = true := by simp; omega
            rw [hbn]
            have HRQ := Lib.hid hRQ
            clear hRQ hbn
            go_wp2_with fail
            refine bodyPost_ret (v := .tuple #[.agg #[.int .i64 0, .slice none 0 0, .slice none 0 0], .int .i64 1]) (by simp [results, Tryf.results15, go_sem, r0, r1, r2]) rfl ?_
            refine refused_post ws HB0.out ?_ _ _ _
            unfold clsF
            rw [if_neg (by rintro ⟨x, h1, h2⟩; have := HALL.out x h1; omega), HSE2.out, if_neg HS0.out, if_pos (.inr (by rw [HL.out, HP.out, HR.out, HLB.out, HQ.out]; exact HRQ.out))]
end Go.Proofs.YthkklojjpgjiiaaFmt
namespace Go.Proofs.YthkklojjpgjiiaaFmt
open Go.RowKit

theorem SR.good_facts {sy bt bs : Nat → Nat} {l : List UInt8} {L a b : Nat} {out : List Int} {R : WRes} (h : SR sy bt bs l L a b out R) : ∀ o, R = .good o → (∀ x ∈ out, 0 ≤ x) → (∀ x ∈ o, 0 ≤ x) ∧ 2 ≤ o.length ∧ o.length ≤ 255 := by
  induction h with
  | full _ => intro o e; cases e
  | @next L a b out R h hb hr ih =>
    intro o e h0
    refine ih o e fun x hx => ?_
    rcases List.mem_append.1 hx with h1 | h1
    · exact h0 x h1
    · rw [List.mem_singleton.1 h1]; omega
  | over _ _ _ => intro o e; cases e
  | @end_ a b out h hb h2 =>
    intro o e h0
    cases e
    refine ⟨fun x hx => ?_, by simp, by simp; omega⟩
    rcases List.mem_append.1 hx with h1 | h1
    · exact h0 x h1
    · simp at h1; rcases h1 with h1 | h1 <;> rw [h1] <;> omega
  | long _ _ _ => intro o e; cases e
theorem EncR.good_facts {l : List UInt8} {o : List Int} (h : EncR l (.good o)) : (∀ x ∈ o, 0 ≤ x) ∧ 2 ≤ o.length ∧ o.length ≤ 255 := by
  cases h with
  | run h hlg hS hr hne hlast hnl hL hlong hs => exact hs.good_facts o rfl (fun x hx => by cases hx)
theorem headB_lt (d : List UInt8) : headB d < 256 := UInt8.toNat_lt _
theorem WtR.good_facts {d : List UInt8} {o : List Int} {size : Nat} (h : WtR d (.good o) size) : (∀ x ∈ o, 0 ≤ x) ∧ 1 ≤ o.length ∧ o.length ≤ 255 := by
  cases h with
  | @half m h h1 h0 h2 =>
    refine ⟨fun x hx => ?_, by rw [halfs_length]; exact h0, by rw [halfs_length]; have := headB_lt d; omega⟩
    obtain ⟨i, _, rfl⟩ := List.mem_map.1 hx
    omega
  | enc hd h1 h0 h2 hr =>
    have := hr.good_facts
    exact ⟨this.1, by omega, this.2.2⟩
/-- the class of a description -/
def clsR : WRes → Nat
  | .open_ => 2
  | .refused => 1
  | .good o => clsF o
def RcPost (w : World) (d : List UInt8) (e : Ending) (w' : World) : Prop :=
  ∃ R size a A8 n8 c8 A9 n9 c9 s, WtR d R size ∧ Below w.heap.size w w' ∧ e = .returned (.tuple #[.agg #[.int .i64 a, .slice A8 n8 c8, .slice A9 n9 c9], .int .i64 s, .int .i64 (clsR R : Nat)]) ∧ (clsR R = 0 → s = (size : Nat))

theorem size_code : (Tryf.prog.info? 31).map (·.size) = some 3 := by kernel_rfl
set_option maxRecDepth 100000 in
set_option maxHeartbeats 1600000 in
theorem readCode_any {w : World} {A : Option Addr} {n c : Nat} {d : List UInt8} (hs : Sl w w.heap.size A n c d) (hn : n ≤ 50000) :
    Calls Tryf.prog 8 #[.slice A n c] w (RcPost w d) := by
  obtain ⟨w0, hw0⟩ : ∃ w0, w.alloc (.cells #[.int .i64 0, .slice none 0 0, .slice none 0 0] 31 (0, 0)) = w0 := ⟨_, rfl⟩
  have hb0 : Below w.heap.size w w0 := by rw [← hw0]; exact below_new _ _
  have hr0 : w0.heap[w.heap.size]? = some (.cells #[.int .i64 0, .slice none 0 0, .slice none 0 0] 31 (0, 0)) := by rw [← hw0]; exact heap_alloc_new _ _
  have hz0 : w0.heap.size = w.heap.size + 1 := by rw [← hw0]; simp
  have KW := Lib.hid (zWeights_any ((hs.below hb0).more (B' := w0.heap.size) (by omega)) hn)
  have HB0 := Lib.hid hb0
  have HR0 := Lib.hid hr0
  have HZ0 := Lib.hid hz0
  clear hb0 hr0 hz0 hs hn
  go_enter Tryf.func8, Tryf.ntmps8
  go_wp2_with fail
  clear hw0
  refine KW.out.mono ?_
  rintro e w1 ⟨R, size, hR, hb1, hres⟩
  have hr1 := (hb1.block w.heap.size (by have := HZ0.out; omega)).trans HR0.out
  have HWR := Lib.hid hR
  have HB1 := Lib.hid hb1
  have HR1 := Lib.hid hr1
  have r0 : w1.cell? ⟨w.heap.size, 0, none⟩ = some (.int .i64 0) := cell_of_row w1 _ 0 _ _ (0, 0) hr1
  have r1 : w1.cell? ⟨w.heap.size, 1, none⟩ = some (.slice none 0 0) := cell_of_row w1 _ 1 _ _ (0, 0) hr1
  have r2 : w1.cell? ⟨w.heap.size, 2, none⟩ = some (.slice none 0 0) := cell_of_row w1 _ 2 _ _ (0, 0) hr1
  have g0 : w1.frozen? ⟨w.heap.size, 0, none⟩ = false := frozen_of_row w1 _ 0 _ _ hr1
  have g1 : w1.frozen? ⟨w.heap.size, 1, none⟩ = false := frozen_of_row w1 _ 1 _ _ hr1
  have g2 : w1.frozen? ⟨w.heap.size, 2, none⟩ = false := frozen_of_row w1 _ 2 _ _ hr1
  clear hR hb1 hr1
  have hbw1 : Below w.heap.size w w1 := HB0.out.trans (HB1.out.mono (by have := HZ0.out; omega))
  have HBW := Lib.hid hbw1
  clear hbw1
  rcases R with _ | _ | o
  · obtain ⟨v, s, rfl⟩ := hres
    go_wp2_with fail
    refine bodyPost_ret (v := .tuple #[.agg #[.int .i64 0, .slice none 0 0, .slice none 0 0], .int .i64 0, .int .i64 2]) (by simp [results, Tryf.results8, go_sem, r0, r1, r2]) rfl ?_
    exact ⟨.open_, size, _, _, _, _, _, _, _, _, HWR.out, ((HBW.out.setCell (Nat.le_refl _) _).setCell (Nat.le_refl _) _).setCell (Nat.le_refl _) _, rfl, fun h => by cases h⟩
  · obtain ⟨v, s, rfl⟩ := hres
    go_wp2_with fail
    refine bodyPost_ret (v := .tuple #[.agg #[.int .i64 0, .slice none 0 0, .slice none 0 0], .int .i64 0, .int .i64 1]) (by simp [results, Tryf.results8, go_sem, r0, r1, r2]) rfl ?_
    exact ⟨.refused, size, _, _, _, _, _, _, _, _, HWR.out, ((HBW.out.setCell (Nat.le_refl _) _).setCell (Nat.le_refl _) _).setCell (Nat.le_refl _) _, rfl, fun h => by cases h⟩
  · obtain ⟨v, rfl, ho⟩ := hres
    have hgf := HWR.out.good_facts
    obtain ⟨G, cG, hv, hG1, hG2, hGc⟩ := ho.open_ (by omega)
    obtain ⟨m, hm⟩ : ∃ m, o.length = m := ⟨_, rfl⟩
    rw [hm] at hv hGc hgf
    subst hv
    have KC := Lib.hid (zCodeOf_any (c := cG) hG2 hm (by omega) hgf.1 hGc)
    clear ho hgf hm hGc r0 r1 r2 g0 g1 g2
    go_wp2_with fail
    refine KC.out.mono ?_
    rintro e w2 ⟨⟨a, A8, n8, c8, A9, n9, c9, rfl⟩, hb2⟩
    have hz1 : w.heap.size < w1.heap.size := by have := HB1.out.size; have := HZ0.out; omega
    have hr2 := (hb2.block w.heap.size hz1).trans HR1.out
    have HB2 := Lib.hid hb2
    have HR2 := Lib.hid hr2
    have r0 : w2.cell? ⟨w.heap.size, 0, none⟩ = some (.int .i64 0) := cell_of_row w2 _ 0 _ _ (0, 0) hr2
    have r1 : w2.cell? ⟨w.heap.size, 1, none⟩ = some (.slice none 0 0) := cell_of_row w2 _ 1 _ _ (0, 0) hr2
    have r2 : w2.cell? ⟨w.heap.size, 2, none⟩ = some (.slice none 0 0) := cell_of_row w2 _ 2 _ _ (0, 0) hr2
    have g0 : w2.frozen? ⟨w.heap.size, 0, none⟩ = false := frozen_of_row w2 _ 0 _ _ hr2
    have g1 : w2.frozen? ⟨w.heap.size, 1, none⟩ = false := frozen_of_row w2 _ 1 _ _ hr2
    have g2 : w2.frozen? ⟨w.heap.size, 2, none⟩ = false := frozen_of_row w2 _ 2 _ _ hr2
    have hz2 : w.heap.size < w2.heap.size := Nat.lt_of_lt_of_le hz1 hb2.size
    clear hr2 hb2
    go_wp2_with fail
    have hr9 : ((((w2.setCell ⟨w.heap.size, 0, none⟩ (.int .i64 a)).setCell ⟨w.heap.size, 1, none⟩ (.slice A8 n8 c8)).setCell ⟨w.heap.size, 2, none⟩ (.slice A9 n9 c9)).alloc (.cells #[.int .i64 a, .slice A8 n8 c8, .slice A9 n9 c9] 31)).heap[w.heap.size]? = some (.cells #[.int .i64 a, .slice A8 n8 c8, .slice A9 n9 c9] 31 (0, 0)) := by
      refine (Below.heap_alloc _ _ _ (by simp; exact hz2)).trans ?_
      have h := HR2.out
      simp [World.setCell, Array.getElem?_modify, h]
    refine bodyPost_ret (results_cell_tmp2_row rfl _ _ w.heap.size 31 _ (0, 0) _ rfl hr9 Tryf.underlying31 rfl size_code) rfl ?_
    have hbw2 : Below w.heap.size w w2 := HBW.out.trans (HB2.out.mono (Nat.le_of_lt hz1))
    refine ⟨.good o, size, _, _, _, _, _, _, _, _, HWR.out, ?_, rfl, fun _ => rfl⟩
    have h3 := ((hbw2.setCell (p := ⟨w.heap.size, 0, none⟩) (Nat.le_refl _) (.int .i64 a)).setCell (p := ⟨w.heap.size, 1, none⟩) (Nat.le_refl _) (.slice A8 n8 c8)).setCell (p := ⟨w.heap.size, 2, none⟩) (Nat.le_refl _) (.slice A9 n9 c9)
    exact h3.trans ((below_new _ _).mono h3.size)
end Go.Proofs.YthkklojjpgjiiaaFmt
