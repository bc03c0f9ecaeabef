/-
  huff0's BuildCTable with a new scratch. Conditions: those of the theorem.
-/
import Derived.Test.YthkklojjpgjiiaaFmtCodeT45
import Derived.Test.YthkklojjpgjiiaaFmtCodeT03
import Derived.Test.YthkklojjpgjiiaaFmtCodeT46
namespace Go.Proofs.YthkklojjpgjiiaaFmt
open Go.RowKit Go.Extern.Stop Go.Stop Go.Extern

theorem info_256 : (Tryf.prog.info? 40).map (·.size) = some 256 := by kernel_rfl
theorem und_256 : Tryf.prog.underlying 40 = some (.array 256 39) := by kernel_rfl
theorem und_u32 : Tryf.prog.underlying 39 = some (.int .u32) := by kernel_rfl
theorem siz_u32 : (Tryf.prog.info? 39).map (·.size) = some 1 := by kernel_rfl
theorem run_index_256 (w : World) (cells : Array Value) (i x : Nat) (hi : i < 256) (hc : cells[i]? = some (.int .u32 (x : Nat))) : (Instr.index 40 (.agg cells) (.int .i64 (i : Nat))).run Tryf.prog w = .ok (.int .u32 (x : Nat)) w := by
  have h1 : (0 : Int) ≤ (i : Nat) ∧ ((i : Nat) : Int) < 256 := by omega
  cases hq : Tryf.prog.info? 39 with
  | none => have := siz_u32; simp [hq] at this
  | some j =>
    have hj : j.size = 1 := by have := siz_u32; simpa [hq] using this
    simp [Instr.index, run_underlying und_256, asIntOf, h1, part, sizeOf, typeInfo, hq, hj, hc, go_sem]
    intro hge
    omega
/-- what BuildCTable hands back -/
def BuPost (w : World) (H : Nat) (h : Nat → Nat) (e : Ending) (w' : World) : Prop :=
  Only (fun k => k = H ∨ w.heap.size ≤ k) w w' ∧ ((usd h 256 < 2 ∧ ∃ t v, e = .returned (.iface t (.pointer v))) ∨ (2 ≤ usd h 256 ∧ e = .returned .nilIface ∧ ∃ (S : Nat) (nb : Nat → Nat) (Pt : Nat) (f' tv : Nat → Value), 1 ≤ S ∧ S ≤ 256 ∧ (∀ s, s < 256 → (s < S ∧ 1 ≤ nb s ↔ 0 < h s)) ∧ PTab w' H Pt S 256 f' tv 78 512 nb))
set_option maxRecDepth 100000 in
set_option maxHeartbeats 6400000 in
theorem buildT_any {w : World} {H g1 : Nat} {h : Nat → Nat} {t0 : TypeId} {p0 : Option Addr} (hH : RowF w H 58 540 hz0) (hg : RowF w g1 40 256 fun k => .int .u32 (h k : Nat)) (hHg : H ≠ g1) (hh : ∀ k, h k < 65536) (h0 : w.cell? ⟨0, 0, none⟩ = some (.iface t0 (.pointer p0))) (h0H : 0 ≠ H) :
    Calls Tryf.prog 10 #[.pointer (some ⟨H, 0, none⟩), .pointer (some ⟨g1, 0, none⟩)] w (BuPost w H h) := by
  have K18 := Lib.hid (hufPrepS_any hH)
  have hg1lt := hg.lt
  have h0lt := block_lt_of_cell h0
  obtain ⟨cells, hc1, hc2, hc3⟩ := hg
  have HH := Lib.hid hH
  have HC1 := Lib.hid hc1
  have HC3 := Lib.hid hc3
  have HHG := Lib.hid hHg
  have HHH := Lib.hid hh
  have H0 := Lib.hid h0
  have H0H := Lib.hid h0H
  have H0L := Lib.hid h0lt
  have HGL := Lib.hid hg1lt
  have HSZ := Lib.hid hc2
  clear hH hc1 hc3 hHg hh h0 h0H h0lt hg1lt hc2
  go_enter Tryf.func10, Tryf.ntmps10
  go_wp2_with fail
  refine K18.out.mono ?_
  rintro e w1 ⟨rfl, G, f1, hh1, hg1, hwG, h273, h262, hne, ho1⟩
  have hcell1 : w1.heap[g1]? = some (.cells cells 40 (0, 0)) := by
    rw [ho1.block g1 (fun hk => by have h1 := HHG.out; have h2 := HGL.out; rcases hk with hk | hk <;> omega) HGL.out]
    exact HC1.out
  have hone : ∀ v ∈ cells.toList, v.oneCell' = true := fun v hv => by
    obtain ⟨j, hj, rfl⟩ := List.getElem_of_mem hv
    have hj2 : j < 256 := by have := HSZ.out; simp at hj; omega
    have h5 := HC3.out j hj2
    have h6 : cells.toList[j] = .int .u32 (h j : Nat) := by
      rw [Array.getElem?_eq_getElem (by have := HSZ.out; omega)] at h5
      simpa using h5
    rw [h6]; rfl
  have hcsrc : ∀ j v, cells[j]? = some v → w1.cell? ⟨g1, 0 + j, none⟩ = some v := fun j v hv => by
    rw [Nat.zero_add, cell_of_row w1 g1 j cells _ _ hcell1]
    exact hv
  have hi256 : (Tryf.prog.info? 40).map (·.size) = some cells.size := by rw [HSZ.out]; exact info_256
  have HONE := Lib.hid hone
  have HCS := Lib.hid hcsrc
  have HI := Lib.hid hi256
  have HH1 := Lib.hid hh1
  have HG1 := Lib.hid hg1
  have HWG := Lib.hid hwG
  have H273 := Lib.hid h273
  have H262 := Lib.hid h262
  have HNE := Lib.hid hne
  have HO1 := Lib.hid ho1
  clear hcell1 hone hcsrc hi256 hh1 hg1 hwG h273 h262 hne ho1
  go_upto_region 10 with (first
    | (refine wpList_load_part rfl 40 (.tmp 35) rfl g1 rfl cells _ HCS.out Tryf.underlying40 rfl HI.out ?_)
    | (refine wpList_store_part rfl 40 (.tmp 38) (.tmp 36) rfl H cells rfl rfl HH1.out HI.out (by have := HSZ.out; omega) HONE.out HO1.out (.inl rfl) ?_; intro w2 hh2 ho2 hot2))
  have hsz := HSZ.out
  have hH2 : RowF w2 H 58 540 fun k => if k < 256 then .int .u32 (h k : Nat) else f1 k := hh2.out.congr fun k _ => by
    by_cases e : k < 256
    · rw [if_pos e, if_pos (by omega), List.getD_eq_getElem?_getD, show cells.toList[k]? = cells[k]? from by simp, HC3.out k e]
      rfl
    · rw [if_neg e, if_neg (by omega)]
  have hlt2 := HH1.out.lt
  have hG2 : RowF w2 G 110 513 (ndV fun _ => 0) := HG1.out.same (hot2.out G (by have h1 := HWG.out; have h2 := HH.out.lt; omega))
  have h02 : w2.cell? ⟨0, 0, none⟩ = some (.iface t0 (.pointer p0)) := by
    have e1 := ho2.out.block 0 (fun hk => by have h1 := H0H.out; have h2 := H0L.out; rcases hk with hk | hk <;> omega) H0L.out
    have e2 := H0.out
    simp only [World.cell?] at e2 ⊢
    rw [e1]
    exact e2
  have hcs2 : ∀ j v, cells[j]? = some v → w2.cell? ⟨H, 0 + j, none⟩ = some v := fun j v hv => by
    have hj : j < 256 := by
      by_cases e : j < 256
      · exact e
      · rw [Array.getElem?_eq_none (by omega)] at hv; cases hv
    rw [HC3.out j hj] at hv
    rw [Nat.zero_add]
    exact hH2.cellv j (by omega) _ (by rw [if_pos hj]; exact Option.some.inj hv)
  have HH2 := Lib.hid hH2
  have HG2 := Lib.hid hG2
  have H02 := Lib.hid h02
  have HCS2 := Lib.hid hcs2
  have HO2 := ho2
  clear hH2 hG2 h02 hcs2 hh2 ho2 hot2 hlt2 HH1 HG1 HO1 K18
  go_wp2_with (refine wpList_load_part rfl 40 (.tmp 41) rfl H rfl cells _ HCS2.out Tryf.underlying40 rfl HI.out ?_)
  go_loopw [6, 7, 8, 43] (fun tv mv sv iv wr => ∃ (i T mx S : Nat), i ≤ 256 ∧ tv = .int .i64 (T : Nat) ∧ mv = .int .i64 (mx : Nat) ∧ sv = .int .u16 (S : Nat) ∧ iv = .int .i64 (i : Nat) ∧ TotI h i T mx S ∧ w2 = wr) (fun _ _ _ iv _ => 256 - (intOf iv).toNat)
  case atStart => exact ⟨0, 0, 0, 0, Nat.zero_le _, rfl, rfl, rfl, rfl, TotI.zero h, rfl⟩
  case round =>
    obtain ⟨i, T, mx, S, hi, rfl, rfl, rfl, rfl, hT, rfl⟩ := hrel
    have hTb : T ≤ 16776960 := by
      have h1 := sm_le (f := h) (g := fun _ => 65535) (n := i) fun j _ => by have := HHH.out j; omega
      rw [sm_const] at h1
      have h2 : i * 65535 ≤ 256 * 65535 := Nat.mul_le_mul_right _ hi
      have h3 := hT.tot
      omega
    have hSb := hT.s2
    by_cases hin : (i : Int) < 256
    · have hd : decide ((i : Int) < 256) = true := decide_eq_true hin
      have hci := HC3.out i (by omega)
      have hx := HHH.out i
      have hmb : mx ≤ T ∨ True := .inr trivial
      have hstep := hT.step
      obtain ⟨x, hxe⟩ : ∃ x, h i = x := ⟨_, rfl⟩
      rw [hxe] at hci hx hstep
      have HST := Lib.hid hstep
      clear hstep hT hxe hmb
      have hix := fun wx => run_index_256 wx cells i x (by omega) hci
      have hwT : wrap64 ((T : Int) + (x : Int)) = ((T + x : Nat) : Int) := wrap_nat (T + x) _ (by omega) (by omega)
      by_cases hz : x = 0
      · subst hz
        have hm : ¬ (mx : Int) < 0 := by omega
        have hdm : decide ((mx : Int) < 0) = false := decide_eq_false hm
        have hs := HST.out
        rw [if_neg (by omega), if_neg (by omega), Nat.add_zero] at hs
        have HS := Lib.hid hs
        clear hs
        go_wp2_with fail
        refine ⟨⟨i + 1, T, mx, S, by omega, rfl, rfl, rfl, by go_num, HS.out, trivial⟩, by simp [intOf]; omega⟩
      · have hxn : ((x : Int) != 0) = true := by simp; omega
        have hxn2 : decide ((x : Int) = 0) = false := decide_eq_false (by omega)
        have hxn3 : ((x : Int) == 0) = false := by rw [beq_eq_false_iff_ne]; omega
        by_cases hm : (mx : Int) < (x : Int)
        · have hdm : decide ((mx : Int) < (x : Int)) = true := decide_eq_true hm
          have hs := HST.out
          rw [if_pos (by omega), if_pos (by omega)] at hs
          have HS := Lib.hid hs
          clear hs hz
          go_wp2_with fail
          refine ⟨⟨i + 1, T + x, x, i + 1, by omega, by go_num, rfl, by go_num, by go_num, HS.out, trivial⟩, by simp [intOf]; omega⟩
        · have hdm : decide ((mx : Int) < (x : Int)) = false := decide_eq_false hm
          have hs := HST.out
          rw [if_neg (by omega), if_pos (by omega)] at hs
          have HS := Lib.hid hs
          clear hs hz
          go_wp2_with fail
          refine ⟨⟨i + 1, T + x, mx, i + 1, by omega, by go_num, rfl, by go_num, by go_num, HS.out, trivial⟩, by simp [intOf]; omega⟩
    · obtain rfl : i = 256 := by omega
      have HT := Lib.hid hT
      by_cases hT0 : T = 0
      · subst hT0
        have hu : usd h 256 < 2 := by
          have h1 := usd_le h 256
          have h2 := hT.tot
          omega
        have HU := Lib.hid hu
        clear hu hT
        go_wp2_with fail
        refine (errorsNew_any _ _).mono ?_
        rintro e w4 ⟨b, s, hb1, hb2, rfl, hcc, hbl⟩
        go_wp2_with fail
        go_ret
        exact ⟨HO2.out.trans (Only.of_below hbl fun k hk _ => hk), .inl ⟨HU.out, _, _, rfl⟩⟩
      · have hTn : ((T : Int) == 0) = false := by rw [beq_eq_false_iff_ne]; omega
        have hTn2 : decide ((T : Int) = 0) = false := decide_eq_false (by omega)
        have k0 := H02.out
        by_cases hS2 : (S : Int) < 2
        · have hdS : decide ((S : Int) < 2) = true := decide_eq_true hS2
          have hu : usd h 256 < 2 := hT.few (.inl (by omega))
          have HU := Lib.hid hu
          clear hu hT
          go_wp2_with fail
          go_ret
          exact ⟨HO2.out, .inl ⟨HU.out, _, _, rfl⟩⟩
        · have hdS : decide ((S : Int) < 2) = false := decide_eq_false hS2
          by_cases hmT : (mx : Int) = (T : Int)
          · have hm1 : ((mx : Int) == (T : Int)) = true := beq_iff_eq.2 hmT
            have hm2 : decide ((mx : Int) = (T : Int)) = true := decide_eq_true hmT
            have hu : usd h 256 < 2 := hT.few (.inr (by omega))
            have HU := Lib.hid hu
            clear hu hT hmT
            go_wp2_with fail
            go_ret
            exact ⟨HO2.out, .inl ⟨HU.out, _, _, rfl⟩⟩
          · have hm1 : ((mx : Int) == (T : Int)) = false := beq_eq_false_iff_ne.2 hmT
            have hm2 : decide ((mx : Int) = (T : Int)) = false := decide_eq_false hmT
            have hu : 2 ≤ usd h 256 := hT.two (by omega)
            have HU := Lib.hid hu
            have HMT := Lib.hid hmT
            clear hu hT hmT k0 hT0
            by_cases hbig : (262143 : Int) < (T : Int)
            · have hdb : decide ((262143 : Int) < (T : Int)) = true := decide_eq_true hbig
              go_upto_if 75 with fail
              rename_i K1 a1
              have HA := Lib.hid a1
              clear a1
              go_wp2_with fail
              go_loopw [11] (fun kv wx => ∃ k : Nat, kv = .int .u64 (k : Nat) ∧ k ≤ 7 ∧ w2 = wx) (fun kv _ => 8 - (intOf kv).toNat)
              case atStart => exact ⟨0, rfl, Nat.zero_le _, rfl⟩
              case round =>
                obtain ⟨k, rfl, hk, rfl⟩ := hrel
                obtain ⟨P, hP⟩ : ∃ P, 2 ^ k = P := ⟨_, rfl⟩
                have hP1 : 1 ≤ P := by rw [← hP]; exact Nat.two_pow_pos k
                have hP2 : P ≤ 128 := by rw [← hP]; exact Nat.le_trans (Nat.pow_le_pow_right (by omega) hk) (by decide)
                have hPi : (2 : Int) ^ k = (P : Nat) := by rw [← hP]; push_cast; rfl
                obtain ⟨q, hq⟩ : ∃ q, T / P = q := ⟨_, rfl⟩
                have hqi : (T : Int) / (P : Int) = (q : Nat) := by rw [← hq]; exact (Int.natCast_ediv _ _).symm
                have hk7 : 262143 < q → k < 7 := fun h1 => by
                  by_cases e : k < 7
                  · exact e
                  · exfalso
                    rw [show k = 7 by omega] at hP
                    have h2 : P = 128 := hP.symm
                    rw [h2] at hq
                    omega
                have HP := Lib.hid hP
                have HQ := Lib.hid hq
                have HK7 := Lib.hid hk7
                clear hP hq hk7
                by_cases hqb : (262143 : Int) < (q : Int)
                · have hdq : decide ((262143 : Int) < (q : Int)) = true := decide_eq_true hqb
                  have hk8 := HK7.out (by omega)
                  go_wp2_with fail
                  refine ⟨⟨k + 1, by go_num, by omega, trivial⟩, by simp [intOf]; omega⟩
                · have hdq : decide ((262143 : Int) < (q : Int)) = false := decide_eq_false hqb
                  obtain ⟨r, hr⟩ : ∃ r, P - 1 = r := ⟨_, rfl⟩
                  have hri : (P : Int) - 1 = (r : Nat) := by omega
                  have HR := Lib.hid hr
                  have hr128 : r < 128 := by omega
                  have HQB := Lib.hid (show T / P ≤ 262143 by rw [HQ.out]; omega)
                  clear hr
                  go_wp2_with (refine wpList_load_part rfl 40 (.tmp 87) rfl H rfl cells _ HCS2.out Tryf.underlying40 rfl HI.out ?_)
                  go_loopw [13, 14, 89] (fun tv mv iv wr => ∃ (i T2 mx2 S2 : Nat), i ≤ 256 ∧ tv = .int .i64 (T2 : Nat) ∧ mv = .int .i64 (mx2 : Nat) ∧ iv = .int .i64 (i : Nat) ∧ TotI (scl h P) i T2 mx2 S2 ∧ RowF wr H 58 540 (fun k => if k < 256 then .int .u32 ((if k < i then scl h P k else h k : Nat) : Nat) else f1 k) ∧ RowF wr G 110 513 (ndV fun _ => 0) ∧ Only (fun k => k = H ∨ w.heap.size ≤ k) w wr) (fun _ _ iv _ => 256 - (intOf iv).toNat)
                  case atStart => exact ⟨0, 0, 0, 0, Nat.zero_le _, rfl, rfl, rfl, TotI.zero _, HH2.out.congr fun k _ => by simp only [Nat.not_lt_zero, if_false], HG2.out, HO2.out⟩
                  case round =>
                    obtain ⟨i, T2, mx2, S2, hi, rfl, rfl, rfl, hT2, hrh, hrg, hro⟩ := hrel
                    have hHne : H ≠ G := by have h1 := HWG.out; have h2 := HH.out.lt; omega
                    have hTb2 : T2 ≤ 16776960 := by
                      have h1 := sm_le (f := scl h P) (g := fun _ => 65535) (n := i) fun j _ => by have := HHH.out j; have := scl_le (h := h) hP1 j; show scl h P j ≤ 65535; omega
                      rw [sm_const] at h1
                      have h2 : i * 65535 ≤ 256 * 65535 := Nat.mul_le_mul_right _ hi
                      have h3 := hT2.tot
                      omega
                    by_cases hin : (i : Int) < 256
                    · have hd : decide ((i : Int) < 256) = true := decide_eq_true hin
                      have hci := HC3.out i (by omega)
                      have hx := HHH.out i
                      have hstep := hT2.step
                      have hyx := scl_le (h := h) hP1 i
                      have hyp := scl_pos (h := h) hP1 i
                      have hyd : scl h P i = (h i + r) / P := by rw [← HR.out]; rfl
                      obtain ⟨y, hye⟩ : ∃ y, scl h P i = y := ⟨_, rfl⟩
                      obtain ⟨x, hxe⟩ : ∃ x, h i = x := ⟨_, rfl⟩
                      have hrow2 : RowF (wr.setCell ⟨H, i, none⟩ (.int .u32 (y : Nat))) H 58 540 (fun k => if k < 256 then .int .u32 ((if k < i + 1 then scl h P k else h k : Nat) : Nat) else f1 k) := (hrh.set_ i (.int .u32 (y : Nat))).congr fun k _ => by
                        unfold updV
                        by_cases e : k = i
                        · rw [if_pos e, e, if_pos (by omega), if_pos (by omega), hye]
                        · rw [if_neg e]
                          dsimp only
                          by_cases e2 : k < 256
                          · rw [if_pos e2, if_pos e2]
                            by_cases e3 : k < i
                            · rw [if_pos e3, if_pos (by omega)]
                            · rw [if_neg e3, if_neg (by omega)]
                          · rw [if_neg e2, if_neg e2]
                      have hrow0 : y = x → RowF wr H 58 540 (fun k => if k < 256 then .int .u32 ((if k < i + 1 then scl h P k else h k : Nat) : Nat) else f1 k) := fun hyx2 => hrh.congr fun k _ => by
                        by_cases e2 : k < 256
                        · rw [if_pos e2, if_pos e2]
                          by_cases e3 : k < i
                          · rw [if_pos e3, if_pos (by omega)]
                          · rw [if_neg e3]
                            by_cases e : k = i
                            · rw [if_pos (by omega), e, hye, hxe, hyx2]
                            · rw [if_neg (by omega)]
                        · rw [if_neg e2, if_neg e2]
                      have hrg2 := hrg.other (p := ⟨H, i, none⟩) (.int .u32 (y : Nat)) hHne
                      have hro2 := hro.set_ (p := ⟨H, i, none⟩) (.inl rfl) (.int .u32 (y : Nat))
                      have kH := hrh.cell i (by omega)
                      have zH := hrh.frozen i
                      rw [hye] at hstep hyx hyp hyd
                      rw [hxe] at hci hx hyx hyp hyd
                      have hix := fun wx => run_index_256 wx cells i x (by omega) hci
                      have hyi : ((x : Int) + (r : Int)) / (P : Int) = (y : Nat) := by rw [hyd, Int.natCast_ediv]; push_cast; rfl
                      have HST := Lib.hid hstep
                      have HROW0 := Lib.hid hrow0
                      have HROW2 := Lib.hid hrow2
                      have HRG := Lib.hid hrg
                      have HRG2 := Lib.hid hrg2
                      have HRO := Lib.hid hro
                      have HRO2 := Lib.hid hro2
                      have HYP := Lib.hid hyp
                      clear hstep hrow0 hrow2 hrg hrg2 hro hro2 hrh hT2 hye hxe hyd hyp
                      by_cases hz : x = 0
                      · subst hz
                        have hy0 : y = 0 := by omega
                        have hs := HST.out
                        rw [hy0, if_neg (by omega), if_neg (by omega), Nat.add_zero] at hs
                        have HS := Lib.hid hs
                        have HR0 := Lib.hid (HROW0.out hy0)
                        clear hs hy0 hyi
                        go_wp2_with fail
                        refine ⟨⟨i + 1, T2, mx2, S2, by omega, rfl, rfl, by go_num, HS.out, HR0.out, HRG.out, HRO.out⟩, by simp [intOf]; omega⟩
                      · have hxn2 : decide ((x : Int) = 0) = false := decide_eq_false (by omega)
                        have hxn3 : ((x : Int) == 0) = false := by rw [beq_eq_false_iff_ne]; omega
                        have hy0 : 0 < y := HYP.out.2 (by omega)
                        have hyn2 : decide ((y : Int) = 0) = false := decide_eq_false (by omega)
                        have hyn3 : ((y : Int) == 0) = false := by rw [beq_eq_false_iff_ne]; omega
                        have hwT : wrap64 ((T2 : Int) + (y : Int)) = ((T2 + y : Nat) : Int) := wrap_nat (T2 + y) _ (by omega) (by omega)
                        by_cases hm : (mx2 : Int) < (y : Int)
                        · have hdm : decide ((mx2 : Int) < (y : Int)) = true := decide_eq_true hm
                          have hs := HST.out
                          rw [if_pos (by omega), if_pos (by omega)] at hs
                          have HS := Lib.hid hs
                          clear hs hz
                          go_wp2_with fail
                          refine ⟨⟨i + 1, T2 + y, y, i + 1, by omega, by go_num, rfl, by go_num, HS.out, HROW2.out, HRG2.out, HRO2.out⟩, by simp [intOf]; omega⟩
                        · have hdm : decide ((mx2 : Int) < (y : Int)) = false := decide_eq_false hm
                          have hs := HST.out
                          rw [if_neg (by omega), if_pos (by omega)] at hs
                          have HS := Lib.hid hs
                          clear hs hz
                          go_wp2_with fail
                          refine ⟨⟨i + 1, T2 + y, mx2, i + 1, by omega, by go_num, rfl, by go_num, HS.out, HROW2.out, HRG2.out, HRO2.out⟩, by simp [intOf]; omega⟩
                    · obtain rfl : i = 256 := by omega
                      have hd : decide (((256 : Nat) : Int) < 256) = false := by decide
                      have hlt := hT2.mx_lt (by rw [scl_usd hP1]; exact HU.out)
                      have hm1 : ((mx2 : Int) == (T2 : Int)) = false := by rw [beq_eq_false_iff_ne]; omega
                      have hm2 : decide ((mx2 : Int) = (T2 : Int)) = false := decide_eq_false (by omega)
                      have hT3 : T2 ≤ 300000 := by rw [hT2.tot]; exact scl_sum hP1 HT.out.tot HQB.out
                      have HT2 := Lib.hid hT2
                      have HRH := Lib.hid hrh
                      have HRG := Lib.hid hrg
                      have HRO := Lib.hid hro
                      clear hT2 hrh hrg hro hlt
                      go_wp2_with fail
                      have hnS : usd (scl h P) S = usd h 256 := by rw [scl_usd hP1]; exact HT.out.usd_S
                      have hle : usd (scl h P) S ≤ T2 := by
                        rw [hnS, HT2.out.tot, ← scl_usd hP1]
                        exact usd_le (scl h P) 256
                      refine HA.out _ _ (bu_2 (w := w) (C := scl h P) HRH.out HRG.out hHne HWG.out (by rw [if_neg (by omega)]; exact H273.out) (by rw [if_neg (by omega)]; exact H262.out) (by rw [if_neg (by omega), HNE.out 270 (by omega) (by omega) (by omega) (by omega)]; kernel_rfl) (by rw [if_neg (by omega), HNE.out 271 (by omega) (by omega) (by omega) (by omega)]; kernel_rfl) (fun k hk => by rw [if_pos hk, if_pos hk]) (fun k => Nat.lt_of_le_of_lt (scl_le hP1 k) (HHH.out k)) (by omega) (by omega) (bs_usd S).symm (by rw [hnS]; exact HU.out) hle HRO.out _ _ _ _ _ _ _ _ _ _ _ _ _ _ _ _ _ _ _ _ _ _ _ _ _ _ _ _ _ _ _ _ _ _ _ _ _ _ _ _ _ _ _ _ _ _ _ _ _ _ _ _ _ _ _ _ _ _ _ _ _ _ _ _ _ _ _ _ _ _ _ _ _ _ _ _ _ _ _ _ _ _ _ _ _ _ _ _ _ _ _ _ _ _ _ _ _ _ _ _ _ _ _ _ _ _ _ _ _ _ _ _ _ _ _ _ _ _ _ _ _ _ _ _ _ _ _ _ _ _ _ _ _ _ _ _ _ _ _ _ _ _ _ _ _ _ _ _ _ _ _ _ _ _ _ _ _ _ _ _ _ _ _ _ _ _ _ _ _ _ _ _ _ _ _ _ _ _ _ _ _ _ _ _ _ _ _ _ _ ?_)
                      rintro F w5 ⟨hF, nb, Pt, f', tv, hiff, hp, ho⟩
                      rw [bu_ret hF]
                      go_ret
                      refine ⟨ho, .inr ⟨HU.out, rfl, S, nb, Pt, f', tv, by omega, by omega, fun s hs => ⟨fun hx => (scl_pos hP1 s).1 ((hiff s).1 hx.2).2, fun hx => ⟨HT.out.s1 s hs hx, (hiff s).2 ⟨HT.out.s1 s hs hx, (scl_pos hP1 s).2 hx⟩⟩⟩, hp⟩⟩
            · have hdb : decide ((262143 : Int) < (T : Int)) = false := decide_eq_false hbig
              go_upto_if 75 with fail
              rename_i K1 a1
              have HA := Lib.hid a1
              clear a1
              go_wp2_with fail
              have hnS : usd h S = usd h 256 := HT.out.usd_S
              have hle : usd h S ≤ T := by
                rw [hnS, HT.out.tot]
                exact usd_le h 256
              have hHne : H ≠ G := by have h1 := HWG.out; have h2 := HH.out.lt; omega
              refine HA.out _ _ (bu_2 (w := w) HH2.out HG2.out hHne HWG.out (by rw [if_neg (by omega)]; exact H273.out) (by rw [if_neg (by omega)]; exact H262.out) (by rw [if_neg (by omega), HNE.out 270 (by omega) (by omega) (by omega) (by omega)]; kernel_rfl) (by rw [if_neg (by omega), HNE.out 271 (by omega) (by omega) (by omega) (by omega)]; kernel_rfl) (fun k hk => if_pos hk) HHH.out (by omega) (by omega) (bs_usd S).symm (by rw [hnS]; exact HU.out) hle HO2.out _ _ _ _ _ _ _ _ _ _ _ _ _ _ _ _ _ _ _ _ _ _ _ _ _ _ _ _ _ _ _ _ _ _ _ _ _ _ _ _ _ _ _ _ _ _ _ _ _ _ _ _ _ _ _ _ _ _ _ _ _ _ _ _ _ _ _ _ _ _ _ _ _ _ _ _ _ _ _ _ _ _ _ _ _ _ _ _ _ _ _ _ _ _ _ _ _ _ _ _ _ _ _ _ _ _ _ _ _ _ _ _ _ _ _ _ _ _ _ _ _ _ _ _ _ _ _ _ _ _ _ _ _ _ _ _ _ _ _ _ _ _ _ _ _ _ _ _ _ _ _ _ _ _ _ _ _ _ _ _ _ _ _ _ _ _ _ _ _ _ _ _ _ _ _ _ _ _ _ _ _ _ _ _ _ _ _ _ _ ?_)
              rintro F w5 ⟨hF, nb, Pt, f', tv, hiff, hp, ho⟩
              rw [bu_ret hF]
              go_ret
              refine ⟨ho, .inr ⟨HU.out, rfl, S, nb, Pt, f', tv, by omega, by omega, fun s hs => ⟨fun hx => ((hiff s).1 hx.2).2, fun hx => ⟨HT.out.s1 s hs hx, (hiff s).2 ⟨HT.out.s1 s hs hx, hx⟩⟩⟩, hp⟩⟩
end Go.Proofs.YthkklojjpgjiiaaFmt
