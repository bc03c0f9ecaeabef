/-
  huff0's setMaxHeight. Conditions: those of the theorem.
-/
import Derived.Test.YthkklojjpgjiiaaFmtCodeT28
namespace Go.Proofs.YthkklojjpgjiiaaFmt
open Go.RowKit

set_option maxRecDepth 100000 in
set_option maxHeartbeats 6400000 in
theorem setMaxHeight_any {w : World} {H G N n M L : Nat} {f : Nat → Value} {z c pa sy l : Nat → Nat} (hB : NdB n c pa sy) (hn : n ≤ 256) (hn1 : n = N + 1) (hM : 5 ≤ M) (hM2 : M ≤ 11) (hn2 : n ≤ 2 ^ M) (hHG : H ≠ G) (hH : RowF w H 58 540 f) (h268 : f 268 = .int .u8 (M : Nat)) (h273 : f 273 = .slice (some ⟨G, 0, none⟩) 513 513) (hG : RowF w G 110 513 (ndV (NV z n c pa sy l))) (hF : Full n L l) (hL : l (n - 1) = L) (hL2 : L ≤ 48) :
    Calls Tryf.prog 34 #[.pointer (some ⟨H, 0, none⟩), .int .i64 (N : Nat)] w fun e w' => ∃ (M' : Nat) (l' : Nat → Nat), e = .returned (.int .u8 (M' : Nat)) ∧ M' ≤ 11 ∧ (∀ i, i < n → 1 ≤ l' i ∧ l' i ≤ M') ∧ RowF w' H 58 540 f ∧ RowF w' G 110 513 (ndV (NV z n c pa sy l')) ∧ Only (fun k => k = G ∨ w.heap.size ≤ k) w w' := by
  have k268 : w.cell? ⟨H, 268, none⟩ = some (.int .u8 (M : Nat)) := hH.cellv 268 (by omega) _ h268
  have k273 : w.cell? ⟨H, 273, none⟩ = some (.slice (some ⟨G, 0, none⟩) 513 513) := hH.cellv 273 (by omega) _ h273
  have hNL : l N = L := by rw [← hL, hn1]; rfl
  obtain ⟨b1, b2, b3⟩ := hB N (by omega)
  have kN : w.cell? ⟨G, 1 + N, none⟩ = some (.int .u64 (nd (c N) (pa N) (sy N) L : Nat)) := by rw [← hNL]; exact hG.cellv (1 + N) (by omega) _ (NV_at (by omega))
  have KN := Lib.hid (ndNbBits_any kN (by omega) (by omega) (by omega) (by omega))
  have hN5 : (N : Int) < 512 := by omega
  have lH := hH.lt
  have lG := hG.lt
  have HB := Lib.hid hB
  have HH := Lib.hid hH
  have HG := Lib.hid hG
  have HF := Lib.hid hF
  have HL := Lib.hid hL
  have HN1 := Lib.hid hn1
  have HN2 := Lib.hid hn2
  have HHG := Lib.hid hHG
  have LH := Lib.hid lH
  have LG := Lib.hid lG
  clear hB hH hG hF hL hn1 hn2 hHG h268 h273 hNL lH lG b1 b2 b3 kN
  go_enter Tryf.func34, Tryf.ntmps34
  by_cases hlm : (L : Int) ≤ (M : Int)
  · have hd : decide ((L : Int) ≤ (M : Int)) = true := decide_eq_true hlm
    go_wp2_with fail
    refine KN.out.mono ?_
    rintro e w3 ⟨rfl, h9⟩
    have h9 := h9.symm
    subst h9
    go_wp2_with fail
    go_ret
    exact ⟨L, l, rfl, by omega, HF.out.2.1, HH.out, HG.out, Only.refl _ _⟩
  · have hd : decide ((L : Int) ≤ (M : Int)) = false := decide_eq_false hlm
    obtain ⟨d, hde⟩ : ∃ d, L = M + d := ⟨L - M, by omega⟩
    have hld : (L : Int) - (M : Int) = (d : Nat) := by omega
    have hwp := wrap_pow d (by omega)
    obtain ⟨B, hBe⟩ : ∃ B, 2 ^ d = B := ⟨_, rfl⟩
    have hB43 : 2 ^ d ≤ 8796093022208 := Nat.le_trans (Nat.pow_le_pow_right (by omega) (show d ≤ 43 by omega)) (by decide)
    rw [hBe] at hwp hB43
    have hdL : L - M = d := by omega
    obtain ⟨i0, hi0, hi0l⟩ := full_some HF.out (by have := HN1.out; omega) HL.out HN2.out (by omega)
    have hN1 := HN1.out
    obtain ⟨T, hT1, hT2, hT3, hT4⟩ := cut_owed HF.out (by omega) HL.out (show M < L by omega)
    have hcl : ∀ i, cst M L l i ≤ B := fun i => by rw [← hBe, ← hdL]; exact cst_le i
    have hcs : ∀ i, i ≤ n → sm (cst M L l) i ≤ 256 * B := fun i hi => by
      have h1 := sm_le (f := cst M L l) (g := fun _ => B) (n := i) fun j _ => hcl j
      rw [sm_const] at h1
      exact Nat.le_trans h1 (Nat.mul_le_mul_right _ (by omega))
    have HCS := Lib.hid hcs
    have HT2 := Lib.hid hT2
    have HT3 := Lib.hid hT3
    have HT4 := Lib.hid hT4
    have HDL := Lib.hid hdL
    have HBE := Lib.hid hBe
    have HI0 := Lib.hid hi0l
    have HDE := Lib.hid hde
    have HWP := Lib.hid hwp
    have HDN := Lib.hid (show decide (L ≤ M) = false from decide_eq_false (by omega))
    clear hwp hcl hcs hT2 hT3 hT4 hdL hBe hi0l hN1 hde
    go_wp2_with fail
    refine KN.out.mono ?_
    rintro e w3 ⟨rfl, h9⟩
    have h9 := h9.symm
    subst h9
    go_upto_region 8 with fail
    simp only [HDN.out, HWP.out]
    clear hd
    go_wp2_with fail
    go_loopw [8, 10] (fun tv iv wr => ∃ (i Cc : Nat), tv = .int .i64 (Cc : Nat) ∧ iv = .int .u32 (i : Nat) ∧ i < n ∧ Cc + sm (cst M L l) (i + 1) = sm (cst M L l) n ∧ (∀ j, i < j → j < n → M < l j) ∧ RowF wr H 58 540 f ∧ RowF wr G 110 513 (ndV (NV z n c pa sy (cutF M l i))) ∧ Only (fun k => k = G) w wr) (fun _ iv _ => (intOf iv).toNat)
    case atStart =>
      have hN1 := HN1.out
      refine ⟨N, 0, rfl, rfl, by omega, by rw [hN1]; omega, fun j h1 h2 => by omega, HH.out, HG.out.congr (NV_congr fun p hp => ?_), Only.refl _ _⟩
      unfold cutF
      rw [if_neg (by omega)]
    case round =>
      obtain ⟨i, Cc, rfl, rfl, hi, hcc, hgt, hRH, hRG, hOn⟩ := hrel
      have hci := HCS.out (i + 1) (by omega)
      have hcn := HCS.out n (Nat.le_refl _)
      have HCC := Lib.hid hcc
      have HGT := Lib.hid hgt
      have HRH := Lib.hid hRH
      have HRG := Lib.hid hRG
      have HON := Lib.hid hOn
      have hli := HF.out.2.1 i hi
      obtain ⟨b1, b2, b3⟩ := HB.out i hi
      obtain ⟨x, hx⟩ : ∃ x, l i = x := ⟨_, rfl⟩
      have kI : wr.cell? ⟨G, 1 + i, none⟩ = some (.int .u64 (nd (c i) (pa i) (sy i) x : Nat)) := by
        rw [← hx]
        have h1 := hRG.cellv (1 + i) (by omega) _ (NV_at hi)
        rw [show cutF M l i i = l i from if_neg (by omega)] at h1
        exact h1
      have zI := hRG.frozen (1 + i)
      rw [hx] at hli
      have hCb : Cc ≤ 256 * B := by omega
      have KI := Lib.hid (ndNbBits_any kI (by omega) (by omega) (by omega) (by omega))
      have KS := Lib.hid (ndSetNbBits_any kI zI (by omega) (by omega) (by omega) (by omega) M (by omega))
      have HX := Lib.hid hx
      have hi5 : (i : Int) < 512 := by omega
      clear hcc hgt hRH hRG hOn hci hcn hx
      by_cases hgx : (M : Int) < (x : Int)
      · have hd1 : decide ((M : Int) < (x : Int)) = true := decide_eq_true hgx
        have hde := HDE.out
        obtain ⟨e, he⟩ : ∃ e, L = x + e := ⟨L - x, by omega⟩
        have hle : (L : Int) - (x : Int) = (e : Nat) := by omega
        obtain ⟨Ee, hEe⟩ : ∃ B, 2 ^ e = B := ⟨_, rfl⟩
        have hEB : Ee ≤ B := by
          rw [← hEe, ← HBE.out]
          exact Nat.pow_le_pow_right (by omega) (by omega)
        have he48 : e ≤ 48 := by omega
        obtain ⟨D, hD⟩ : ∃ D, B - Ee = D := ⟨_, rfl⟩
        obtain ⟨C2, hC2⟩ : ∃ C2, Cc + D = C2 := ⟨_, rfl⟩
        have hcD : cst M L l i = D := by
          unfold cst
          rw [HX.out, if_pos (by omega), HDL.out, HBE.out, show L - x = e by omega, hEe, hD]
        have hi1 : i0 < i := by
          by_cases e1 : i0 < i
          · exact e1
          · have h1 := HF.out.1 i i0 (by omega) hi0
            have h2 := HI0.out
            have h3 := HX.out
            omega
        obtain ⟨i', hi'⟩ : ∃ i', i = i' + 1 := ⟨i - 1, by omega⟩
        have hsub : (i : Int) - 1 = (i' : Nat) := by omega
        have hcc2 : C2 + sm (cst M L l) (i' + 1) = sm (cst M L l) n := by
          have h1 := HCC.out
          rw [show sm (cst M L l) (i + 1) = sm (cst M L l) i + cst M L l i from rfl, hcD] at h1
          rw [← hi']
          omega
        have hgt2 : ∀ j, i' < j → j < n → M < l j := fun j h1 h2 => by
          by_cases e1 : j = i
          · rw [e1, HX.out]; omega
          · exact HGT.out j (by omega) h2
        have hRH2 := HRH.out.other (p := ⟨G, 1 + i, none⟩) (.int .u64 (nd (c i) (pa i) (sy i) M : Nat)) (show G ≠ H from fun e1 => HHG.out e1.symm)
        have hRG2 := ((HRG.out.set_ (1 + i) (.int .u64 (nd (c i) (pa i) (sy i) M : Nat))).congr (NV_set hi M)).congr (NV_congr (l' := cutF M l i') fun q hq => by
          unfold updN cutF
          by_cases e1 : q = i
          · rw [if_pos e1, if_pos (by omega), e1, HX.out]; omega
          · rw [if_neg e1]
            by_cases e2 : i < q
            · rw [if_pos e2, if_pos (by omega)]
            · rw [if_neg e2, if_neg (by omega)])
        have hOn2 := HON.out.set_ (p := ⟨G, 1 + i, none⟩) (show G = G from rfl) (.int .u64 (nd (c i) (pa i) (sy i) M : Nat))
        have A1 := Lib.hid hcc2
        have A2 := Lib.hid hgt2
        have A3 := Lib.hid hRH2
        have A4 := Lib.hid hRG2
        have A5 := Lib.hid hOn2
        have A6 := Lib.hid hi'
        have A7 := Lib.hid hi1
        have hwe := wrap_pow e he48
        rw [hEe] at hwe
        have hw1 : wrap64 ((B : Int) - (Ee : Int)) = (D : Nat) := wrap_diff hB43 hEB hD
        have hw2 : wrap64 ((Cc : Int) + (D : Int)) = (C2 : Nat) := wrap_sum hB43 hCb (hD ▸ Nat.sub_le _ _) hC2
        clear hcc2 hgt2 hRH2 hRG2 hOn2 hi' hi1 hcD hC2 hD hEe he hde hEB
        go_wp2_with fail
        refine KI.out.mono ?_
        rintro e w3 ⟨rfl, h9⟩
        have h9 := h9.symm
        subst h9
        go_wp2_with fail
        refine KI.out.mono ?_
        rintro e w3 ⟨rfl, h9⟩
        have h9 := h9.symm
        subst h9
        go_wp2_with fail
        refine KS.out.mono ?_
        rintro e w4 ⟨rfl, rfl⟩
        go_wp2_with fail
        have hi' := A6.out
        clear hwe hw1 hw2
        refine ⟨⟨i', C2, rfl, rfl, by omega, A1.out, A2.out, A3.out, A4.out, A5.out⟩, by simp [intOf]; omega⟩
      · have hd1 : decide ((M : Int) < (x : Int)) = false := decide_eq_false hgx
        have hz := cst_zero HF.out hi (show l i ≤ M by rw [HX.out]; omega)
        have hcT : Cc = B * T := by
          have h1 := HCC.out
          rw [hz, HT3.out, HDL.out, HBE.out] at h1
          omega
        have hRG2 := HRG.out.congr (NV_congr (l' := cutL M l) fun q hq => by
          unfold cutF cutL
          by_cases e1 : i < q
          · rw [if_pos e1]
          · rw [if_neg e1]
            have h1 := HF.out.1 q i (by omega) hi
            have h2 := HX.out
            omega)
        have hcut : ∀ j, i < j → j < n → cutL M l j = M := fun j h1 h2 => by
          have := HGT.out j h1 h2
          unfold cutL
          omega
        have A1 := Lib.hid hcT
        have A4 := Lib.hid hRG2
        have A2 := Lib.hid hcut
        obtain ⟨w1, hw1⟩ : ∃ w1, wr = w1 := ⟨_, rfl⟩
        have HW1 := Lib.hid hw1
        have HD48 := Lib.hid (show decide (M < x) = false from decide_eq_false (by omega))
        clear hz hcT hRG2 hcut hw1
        go_wp2_with fail
        refine KI.out.mono ?_
        rintro e w3 ⟨rfl, h9⟩
        have h9 := h9.symm
        subst h9
        go_wp2_with fail
        simp only [HD48.out]
        go_loopw [10] (fun iv wx => ∃ i : Nat, iv = .int .u32 (i : Nat) ∧ i < n ∧ (∀ j, i < j → j < n → cutL M l j = M) ∧ w1 = wx) (fun iv _ => (intOf iv).toNat)
        case atStart => exact ⟨i, rfl, hi, A2.out, HW1.out.symm⟩
        case round =>
          have hw1 := HW1.out
          clear HW1
          subst hw1
          clear KI KS kI zI HX hli hi5
          obtain ⟨i2, rfl, hi2, hal, rfl⟩ := hrel
          have HAL := Lib.hid hal
          clear hal
          obtain ⟨b1, b2, b3⟩ := HB.out i2 hi2
          have hok := cutL_ok HF.out (show 1 ≤ M by omega)
          have hlx := hok.2 i2 hi2
          obtain ⟨x, hx⟩ : ∃ x, cutL M l i2 = x := ⟨_, rfl⟩
          have kI : wr.cell? ⟨G, 1 + i2, none⟩ = some (.int .u64 (nd (c i2) (pa i2) (sy i2) x : Nat)) := by
            rw [← hx]
            exact A4.out.cellv (1 + i2) (by omega) _ (NV_at hi2)
          rw [hx] at hlx
          have KI := Lib.hid (ndNbBits_any kI (by omega) (by omega) (by omega) (by omega))
          have hi5 : (i2 : Int) < 512 := by omega
          have HX := Lib.hid hx
          have HOK := Lib.hid hok
          clear hx hok
          by_cases hxm : (x : Int) = (M : Int)
          · have hd2 : ((x : Int) == (M : Int)) = true := beq_iff_eq.2 hxm
            have hd3 : decide ((x : Int) = (M : Int)) = true := decide_eq_true hxm
            have hi1 : i0 < i2 := by
              by_cases e1 : i0 < i2
              · exact e1
              · have h1 := HOK.out.1 i2 i0 (by omega) hi0
                have h2 := HI0.out
                have h3 := HX.out
                have h4 : cutL M l i0 = l i0 := by unfold cutL; omega
                omega
            obtain ⟨i', hi'⟩ : ∃ i', i2 = i' + 1 := ⟨i2 - 1, by omega⟩
            have hsub : (i2 : Int) - 1 = (i' : Nat) := by omega
            have hal2 : ∀ j, i' < j → j < n → cutL M l j = M := fun j h1 h2 => by
              by_cases e1 : j = i2
              · rw [e1, HX.out]; omega
              · exact HAL.out j (by omega) h2
            have A6 := Lib.hid hi'
            have A7 := Lib.hid hal2
            clear hi' hal2 hxm hi1
            go_wp2_with fail
            refine KI.out.mono ?_
            rintro e w3 ⟨rfl, h9⟩
            have h9 := h9.symm
            subst h9
            go_wp2_with fail
            have hi' := A6.out
            refine ⟨⟨i', rfl, by omega, A7.out, trivial⟩, by simp [intOf]; omega⟩
          · have hd2 : ((x : Int) == (M : Int)) = false := beq_eq_false_iff_ne.2 hxm
            have hd3 : decide ((x : Int) = (M : Int)) = false := decide_eq_false hxm
            have hxlt : x < M := by omega
            clear hxm
            go_wp2_with fail
            refine KI.out.mono ?_
            rintro e w3 ⟨rfl, h9⟩
            have h9 := h9.symm
            subst h9
            have hdiv : (Cc : Int) / (2 : Int) ^ d = (T : Nat) := by
              rw [show (2 : Int) ^ d = ((2 ^ d : Nat) : Int) by push_cast; rfl, HBE.out, A1.out, ← Int.natCast_ediv, Nat.mul_div_cancel_left T (by rw [← HBE.out]; exact Nat.two_pow_pos d)]
            have HDV := Lib.hid hdiv
            clear hdiv
            go_upto_region 15 with fail
            rename_i K1 a1
            have HA := Lib.hid a1
            clear a1
            go_wp2_with fail
            simp only [HDV.out]
            refine HA.out _ _ (mh_w2 HB.out (by omega) hM hM2 HHG.out HN2.out HOK.out HT2.out HT4.out hT1 hi2 HAL.out hxlt HX.out HRH.out A4.out HON.out _ _ _ _ _ _ _ _ _ _ _ _ _ _ _ _ _ _ _ _ _ _ _ _ _ _ _ _ _ _ _ _ _ _ _ _ _ _ _ _ _ _ _ _ _ _ _ _ _ _ _ _ _ _ _ _ _ _ _ _ _ _ _ _ _ _ _ _ _ _ _ _ _ _ _ _ _ _ _ _ _ _ _ _ _ _ _ _ _ _ _ _ _ _ _ _ _ _ _ _ _ _ _ _ _ _ _ _ _ _ _ _ _ _ _ _ _ _ _ _ _ _ _ _ _ _ _ _ _ _ _ _ _ _ _ _ _ _ _ _ _ _ _ _ _ _ _ _ _ _ _ _ _ _ _ _ _ _ _ _ _ _ _ _ _ _ _ _ _ _ _ _ _ _ _ _ _ _ _ _ _ _ _ _ _ _ _ _ _ _ _ _ _ _ _ _ _ _ _ _ _ _ _ _ _ _ _ _ _ _ _ _ _ _ _ _ _ _ _ _ _ _ _ _ _ _ _ _ _ _ _ _ _ _ _ _ _ _ _ _ _ _ _ _ _ _ _ _ _ _ _ _ _ ?_)
            rintro F' w' ⟨hF', l', hl', hm'⟩
            obtain ⟨R, r, hm'⟩ := hm'
            rw [mh_ret hF']
            go_ret
            exact ⟨M, l', rfl, hM2, hl'.2, hm'.h, hm'.g, hm'.only⟩
end Go.Proofs.YthkklojjpgjiiaaFmt
