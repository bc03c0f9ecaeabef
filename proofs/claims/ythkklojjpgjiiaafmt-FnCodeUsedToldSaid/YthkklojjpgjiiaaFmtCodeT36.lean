/-
  huff0's huffSort. Conditions: those of the theorem.
-/
import Derived.Test.YthkklojjpgjiiaaFmtCodeT18
namespace Go.Proofs.YthkklojjpgjiiaaFmt
open Go.RowKit

section
variable {w : World} {H G S : Nat} {C : Nat → Nat} {f : Nat → Value}
set_option maxRecDepth 100000 in
set_option maxHeartbeats 6400000 in
theorem huffSort_any (hH : RowF w H 58 540 f) (hG : RowF w G 110 513 (ndV fun _ => 0)) (hHG : H ≠ G) (h273 : f 273 = .slice (some ⟨G, 0, none⟩) 0 513) (h265 : f 265 = .int .u16 (S : Nat)) (hcnt : ∀ k, k < 256 → f k = .int .u32 (C k : Nat)) (hC : ∀ i, C i < 65536) (hS2 : S ≤ 256) :
    Calls Tryf.prog 27 #[.pointer (some ⟨H, 0, none⟩)] w fun e w' => e = .returned (.tuple #[]) ∧ ∃ nv sy, RowF w' H 58 540 (updV f 273 (.slice (some ⟨G, 0, none⟩) 513 513)) ∧ RowF w' G 110 513 (ndV nv) ∧ HsI C S S nv sy ∧ Only (fun k => k = H ∨ k = G ∨ w.heap.size ≤ k) w w' := by
  have q273 : w.cell? ⟨H, 273, none⟩ = some (.slice (some ⟨G, 0, none⟩) 0 513) := hH.cellv 273 (by omega) _ h273
  have z273 := hH.frozen 273
  have lH : H < w.heap.size := hH.lt
  have lG : G < w.heap.size := hG.lt
  have hc2 : ∀ k, k < 256 → updV f 273 (.slice (some ⟨G, 0, none⟩) 513 513) k = .int .u32 (C k : Nat) := fun k hk => by rw [updV_ne _ _ _ _ (by omega)]; exact hcnt k hk
  have h265b : updV f 273 (.slice (some ⟨G, 0, none⟩) 513 513) 265 = .int .u16 (S : Nat) := by rw [updV_ne _ _ _ _ (by omega)]; exact h265
  have HC := Lib.hid hC
  have HCNT := Lib.hid hc2
  have H265 := Lib.hid h265b
  have HH := Lib.hid hH
  have HG := Lib.hid hG
  have HHG := Lib.hid hHG
  have LH := Lib.hid lH
  have LG := Lib.hid lG
  clear hC hcnt hc2 h265b h265 h273 hH hG hHG lH lG
  go_enter Tryf.func27, Tryf.ntmps27
  go_upto_region 4 with fail
  generalize hw1 : World.alloc _ _ = w1
  have hRr := RowF.newRep _ _ _ _ hw1 (show _ = Array.replicate 64 (.int .u32 0) from rfl)
  have hW1 : HsW w H G w.heap.size (updV f 273 (.slice (some ⟨G, 0, none⟩) 513 513)) (rk1 C 0) (ndV fun _ => 0) w1 := by
    refine ⟨?_, ?_, ?_, ?_⟩
    · rw [← hw1]
      exact (HH.out.set_ 273 _).alloc _
    · rw [← hw1]
      exact (HG.out.other _ HHG.out).alloc _
    · have e : (w.setCell ⟨H, 273, none⟩ (.slice (some ⟨G, 0, none⟩) 513 513)).heap.size = w.heap.size := by simp
      rw [e] at hRr
      exact hRr.congr fun k _ => by unfold rk1; split <;> rfl
    · rw [← hw1]
      exact ((Only.refl _ w).set_ (.inl rfl) _).alloc _
  generalize hf1 : updV f 273 (.slice (some ⟨G, 0, none⟩) 513 513) = f1 at *
  have HF1 := Lib.hid hf1
  clear hf1
  obtain ⟨R, hR⟩ : ∃ R, w.heap.size = R := ⟨_, rfl⟩
  have HR := Lib.hid hR
  have lH := LH.out
  have lG := LG.out
  rw [hR] at lH lG hW1 ⊢
  have HW := Lib.hid hW1
  have hrr : w.heap.size ≤ R := by omega
  have HRR := Lib.hid hrr
  clear hRr hw1 hW1 hR hrr q273 z273
  have k265 : w1.cell? ⟨H, 265, none⟩ = some (.int .u16 (S : Nat)) := HW.out.h.cellv 265 (by omega) _ H265.out
  have hSi : (S : Int) ≤ 256 := by omega
  go_quiet (fail)
  generalize hwz : World.drewN _ nq = w2
  have hq2 := HW.out.drewN nq
  rw [hwz] at hq2
  have HW2 := Lib.hid hq2
  clear hq2 hwz k265 HW
  go_wp2_with fail
  go_loopw [34] (fun iv wr => ∃ (i : Nat), i ≤ S ∧ iv = .int .i64 (i : Nat) ∧ HsW w H G R f1 (rk1 C i) (ndV fun _ => 0) wr) (fun iv _ => S - (intOf iv).toNat)
  case atStart => exact ⟨0, Nat.zero_le _, rfl, HW2.out⟩
  case round =>
    obtain ⟨i, hi, rfl, hwr⟩ := hrel
    have HWR := Lib.hid hwr
    clear hwr
    by_cases hin : (i : Int) < (S : Int)
    · have hd0 : decide ((i : Int) < (S : Int)) = true := decide_eq_true hin
      have k0 : wr.cell? ⟨H, i, none⟩ = some (.int .u32 (C i : Nat)) := HWR.out.h.cellv i (by omega) _ (HCNT.out i (by omega))
      have hx := HC.out i
      have hh := hb_lt hx
      have hv := hc_le (C := C) (hb (C i)) i
      have k1 : wr.cell? ⟨R, hb (C i) * 2, none⟩ = some (.int .u32 (hc C (hb (C i)) i : Nat)) := HWR.out.r.cellv _ (by omega) _ (by unfold rk1; rw [if_pos (by omega), show hb (C i) * 2 / 2 = hb (C i) by omega])
      have z1 := HWR.out.r.frozen (hb (C i) * 2)
      have hst := HWR.out.setR (Nat.le_of_eq HR.out) lH lG (hb (C i) * 2) (.int .u32 (hc C (hb (C i)) i + 1 : Nat)) (rk1_step rfl rfl)
      have KB := highBit32_any (C i + 1)
      have hbe : hb (C i) = (C i + 1).log2 := rfl
      rw [← hbe] at KB
      generalize hc C (hb (C i)) i = v at *
      generalize hb (C i) = h at *
      generalize C i = x at *
      have e31 := and32 h 5 (by omega) (by omega) 31 (by decide)
      rw [Nat.mod_eq_of_lt (show h < 2 ^ 5 by omega)] at e31
      have KB1 := Lib.hid fun wx => KB wx (by omega) (by omega) ((x : Int) + 1) (by omega)
      have HST := Lib.hid hst
      clear hst KB hbe
      go_wp2_with fail
      refine (KB1.out _).mono ?_
      rintro e w3 ⟨rfl, rfl⟩
      go_wp2_with fail
      refine ⟨⟨i + 1, by omega, by go_num, HST.out⟩, by simp [intOf]; omega⟩
    · obtain rfl : S = i := by omega
      have HW3 := Lib.hid (HWR.out.cgR (rk12 HC.out))
      clear HWR
      go_wp2_with fail
      go_loopw [7] (fun iv wr => ∃ (n : Nat), n ≤ 19 ∧ iv = .int .i64 (n : Nat) ∧ HsW w H G R f1 (rk2 C S n) (ndV fun _ => 0) wr) (fun iv _ => (intOf iv).toNat)
      case atStart => exact ⟨19, Nat.le_refl _, rfl, HW3.out⟩
      case round =>
        obtain ⟨n, hn, rfl, hwr⟩ := hrel
        have HWR := Lib.hid hwr
        clear hwr
        by_cases hn0 : n = 0
        · subst hn0
          have HW4 := Lib.hid (HWR.out.cgR rk23)
          clear HWR
          go_wp2_with fail
          go_loopw [68] (fun iv wr => ∃ (i : Nat), i ≤ 19 ∧ iv = .int .i64 (i : Nat) ∧ HsW w H G R f1 (rk3 C S i) (ndV fun _ => 0) wr) (fun iv _ => 19 - (intOf iv).toNat)
          case atStart => exact ⟨0, Nat.zero_le _, rfl, HW4.out⟩
          case round =>
            obtain ⟨i, hi, rfl, hwr⟩ := hrel
            have HWR := Lib.hid hwr
            clear hwr
            by_cases hin : (i : Int) < 19
            · have hd0 : decide ((i : Int) < 19) = true := decide_eq_true hin
              have k1 : wr.cell? ⟨R, i * 2, none⟩ = some (.int .u32 (bs C S i : Nat)) := HWR.out.r.cellv _ (by omega) _ (by unfold rk3; rw [if_pos (by omega), show i * 2 / 2 = i by omega])
              have k2 := HWR.out.r.cell (i * 2 + 1) (by omega)
              have z1 := HWR.out.r.frozen (i * 2 + 1)
              have hst := HWR.out.setR (Nat.le_of_eq HR.out) lH lG (i * 2 + 1) (.int .u32 (bs C S i : Nat)) (rk3_step rfl)
              generalize bs C S i = v at *
              have HST := Lib.hid hst
              clear hst
              go_wp2_with fail
              refine ⟨⟨i + 1, by omega, by go_num, HST.out⟩, by simp [intOf]; omega⟩
            · obtain rfl : i = 19 := by omega
              have HW5 := Lib.hid (HWR.out.cgR (rk34 HC.out))
              clear HWR
              have k265 : wr.cell? ⟨H, 265, none⟩ = some (.int .u16 (S : Nat)) := HW5.out.h.cellv 265 (by omega) _ H265.out
              go_upto_region 19 with fail
              go_quiet (fail)
              generalize hwz : World.drewN _ nq = w6
              have hq2 := HW5.out.drewN nq
              rw [hwz] at hq2
              have HW6 := Lib.hid hq2
              clear hq2 hwz k265 HW5
              go_wp2_with fail
              go_loopw [88] (fun iv wr => ∃ (n : Nat) (nv sy : Nat → Nat), n ≤ S ∧ iv = .int .i64 (n : Nat) ∧ HsI C S n nv sy ∧ HsW w H G R f1 (rk4 C S n) (ndV nv) wr) (fun iv _ => S - (intOf iv).toNat)
              case atStart => exact ⟨0, _, _, Nat.zero_le _, rfl, HsI.zero C S, HW6.out⟩
              case round =>
                obtain ⟨n, nv, sy, hn, rfl, hI, hwr⟩ := hrel
                have HWR := Lib.hid hwr
                have HI := Lib.hid hI
                clear hwr hI
                by_cases hin : (n : Int) < (S : Int)
                · have hd0 : decide ((n : Int) < (S : Int)) = true := decide_eq_true hin
                  have k0 : wr.cell? ⟨H, n, none⟩ = some (.int .u32 (C n : Nat)) := HWR.out.h.cellv n (by omega) _ (HCNT.out n (by omega))
                  have hx := HC.out n
                  have hh := hb_lt hx
                  have hP := cr_ltS (C := C) (S := S) (n := n) (by omega)
                  have hbP := cr_ge (C := C) (S := S) (hb (C n) + 1) n
                  have k1 : wr.cell? ⟨R, (hb (C n) + 1) * 2 + 1, none⟩ = some (.int .u32 (cr C S (hb (C n) + 1) n : Nat)) := HWR.out.r.cellv _ (by omega) _ (by unfold rk4; rw [if_neg (by omega), show ((hb (C n) + 1) * 2 + 1) / 2 = hb (C n) + 1 by omega])
                  have z1 := HWR.out.r.frozen ((hb (C n) + 1) * 2 + 1)
                  have hst := HWR.out.setR (Nat.le_of_eq HR.out) lH lG ((hb (C n) + 1) * 2 + 1) (.int .u32 (cr C S (hb (C n) + 1) n + 1 : Nat)) (rk4_step rfl rfl)
                  have hstep := fun p => HI.out.step (p := p) (show n < S by omega)
                  have hnod := fun p => HI.out.nod (hb (C n)) p
                  have HSTEP := Lib.hid hstep
                  have HNOD := Lib.hid hnod
                  have hcel := fun p => HI.out.si.cell (hb (C n)) p
                  have HCEL := Lib.hid hcel
                  clear hstep hnod hcel
                  have KB := highBit32_any (C n + 1)
                  have hbe : hb (C n) = (C n + 1).log2 := rfl
                  rw [← hbe] at KB
                  have hbs : rk4 C S (n + 1) ((hb (C n) + 1) * 2) = .int .u32 (bs C S (hb (C n) + 1) : Nat) := by unfold rk4; rw [if_pos (by omega), show (hb (C n) + 1) * 2 / 2 = hb (C n) + 1 by omega]
                  have HBS := Lib.hid hbs
                  clear hbs hbe
                  obtain ⟨P, hPe⟩ : ∃ P, cr C S (hb (C n) + 1) n = P := ⟨_, rfl⟩
                  rw [hPe] at hP hbP k1 hst HSTEP HNOD HCEL
                  obtain ⟨b, hbe⟩ : ∃ b, bs C S (hb (C n) + 1) = b := ⟨_, rfl⟩
                  rw [hbe] at hbP HSTEP HNOD HBS HCEL
                  obtain ⟨h, hhe⟩ : ∃ h, hb (C n) = h := ⟨_, rfl⟩
                  rw [hhe] at hh k1 z1 hst KB HBS
                  obtain ⟨r, hr⟩ : ∃ r, h + 1 = r := ⟨_, rfl⟩
                  rw [hr] at k1 z1 hst HBS
                  obtain ⟨x, hxe⟩ : ∃ x, C n = x := ⟨_, rfl⟩
                  rw [hxe] at k0 hx KB HSTEP
                  have e31 : bits .and .u32 ((h : Int) + 1) 31 = (r : Nat) := by
                    have e := and32 r 5 (by omega) (by omega) 31 (by decide)
                    rw [Nat.mod_eq_of_lt (show r < 2 ^ 5 by omega)] at e
                    rw [show (h : Int) + 1 = (r : Nat) by omega]
                    exact e
                  have KB1 := Lib.hid fun wx => KB wx (by omega) (by omega) ((x : Int) + 1) (by omega)
                  have HST := Lib.hid hst
                  have HHR := Lib.hid hr
                  have hri : (r : Int) < 32 := by omega
                  clear hst KB hPe hbe hhe hr
                  go_wp2_with fail
                  refine (KB1.out _).mono ?_
                  rintro e w3 ⟨rfl, rfl⟩
                  go_upto_region 25 with fail
                  have hst2 := HST.out
                  rw [show ((P + 1 : Nat) : Int) = (P : Int) + 1 by omega] at hst2
                  generalize World.setCell _ _ _ = w3 at hst2 ⊢
                  have HS2 := Lib.hid hst2
                  obtain ⟨m, hm⟩ : ∃ m, pc P = m + 1 := by
                    unfold pc
                    split
                    · exact ⟨511, rfl⟩
                    · exact ⟨P - 1, by omega⟩
                  have hm5 : (m : Int) < 512 := by
                    unfold pc at hm
                    split at hm <;> omega
                  have hpa := pc_and P (by omega)
                  rw [show pc P - 1 = m by omega] at hpa
                  have k2 : w3.cell? ⟨G, 1 + m, none⟩ = some (.int .u64 (nv (m + 1) : Nat)) := by
                    rw [Nat.add_comm 1 m]
                    exact hst2.g.cell (m + 1) (by omega)
                  clear hst2 HST k1 z1 k0
                  go_wp2_with fail
                  have hst4 := HS2.out.alloc (.cells #[.int .u64 (nv (m + 1) : Nat)] 110)
                  have hv4 := RowF.newRep _ _ _ _ (rfl : w3.alloc (.cells #[.int .u64 (nv (m + 1) : Nat)] 110) = _) (show _ = Array.replicate 1 _ from rfl)
                  have hVR : R < w3.heap.size := HS2.out.r.lt
                  generalize World.alloc _ _ = w4 at hst4 hv4 ⊢
                  obtain ⟨V, hV⟩ : ∃ V, w3.heap.size = V := ⟨_, rfl⟩
                  rw [hV] at hv4 hVR ⊢
                  have HS4 := Lib.hid hst4
                  have HV4 := Lib.hid hv4
                  clear hst4 hv4 HS2 hV k2 hpa
                  go_loopw [12] (fun pv wr => ∃ p, b ≤ p ∧ p ≤ P ∧ pv = .int .u32 (p : Nat) ∧ (∀ q, p ≤ q → q < P → C (sy q) < x) ∧ HsW w H G R f1 (rk4 C S (n + 1)) (ndV (shN nv p P)) wr ∧ RowF wr V 110 1 (fun _ => .int .u64 (nv (pc p) : Nat))) (fun pv _ => (intOf pv).toNat)
                  case atStart =>
                    refine ⟨P, hbP, Nat.le_refl _, rfl, fun q h1 h2 => by omega, ?_, ?_⟩
                    · rw [show shN nv P P = nv from funext fun k => shN_at nv P k]
                      exact HS4.out
                    · rw [hm]; exact HV4.out
                  case round =>
                    obtain ⟨p, hp1, hp2, rfl, hq, hwr8, hV8⟩ := hrel
                    have HQ := Lib.hid hq
                    have HW8 := Lib.hid hwr8
                    have HV8 := Lib.hid hV8
                    clear hq hwr8 hV8
                    have kB : wr.cell? ⟨R, r * 2, none⟩ = some (.int .u32 (b : Nat)) := HW8.out.r.cellv _ (by omega) _ HBS.out
                    by_cases hpb : (b : Int) < (p : Int)
                    · have hdb : decide ((b : Int) < (p : Int)) = true := decide_eq_true hpb
                      obtain ⟨p', hpe⟩ : ∃ p', p = p' + 1 := ⟨p - 1, by omega⟩
                      have hnd := HNOD.out p' (by omega) (by omega)
                      have hce := HCEL.out p' (by omega) (by omega)
                      have hcx := HC.out (sy p')
                      have hpp : pc p = p' + 1 := by rw [hpe]; exact if_neg (by omega)
                      have HPE := Lib.hid hpe
                      have kV : wr.cell? ⟨V, 0, none⟩ = some (.int .u64 (nd (C (sy p')) 0 (sy p') 0 : Nat)) := HV8.out.cellv 0 (by omega) _ (by show Value.int .u64 (nv (pc p) : Nat) = _; rw [hpp, hnd])
                      have KC := Lib.hid fun wx (hx : wx.cell? ⟨V, 0, none⟩ = some (.int .u64 (nd (C (sy p')) 0 (sy p') 0 : Nat))) => ndCount_any (w := wx) hx (by omega) (by omega) (by omega) (by omega)
                      clear hpe
                      by_cases hlt : (C (sy p') : Int) < (x : Int)
                      · have hdl : decide ((C (sy p') : Int) < (x : Int)) = true := decide_eq_true hlt
                        go_wp2_with fail
                        refine (KC.out _ kV).mono ?_
                        rintro e w9 ⟨rfl, h9⟩
                        have h9 := h9.symm
                        subst h9
                        have eP := and32 p 9 (by omega) (by omega) 511 (by decide)
                        rw [Nat.mod_eq_of_lt (show p < 2 ^ 9 by omega)] at eP
                        have kG : wr.cell? ⟨G, 1 + p, none⟩ = some (ndV (shN nv p P) (1 + p)) := HW8.out.g.cell (1 + p) (by omega)
                        have zG := HW8.out.g.frozen (1 + p)
                        have hst5 := (HW8.out.setG lG HHG.out (1 + p) (.int .u64 (nd (C (sy p')) 0 (sy p') 0 : Nat)) (nvv' := ndV (shN nv p' P)) (by have hpe := HPE.out; rw [← hnd, hpe, show 1 + (p' + 1) = p' + 2 by omega]; exact shN_step (by omega)))
                        have hq2 : ∀ q, p' ≤ q → q < P → C (sy q) < x := fun q h1 h2 => by
                          by_cases e : q = p'
                          · rw [e]; omega
                          · exact HQ.out q (by have := HPE.out; omega) h2
                        have HQ2 := Lib.hid hq2
                        have HST5 := Lib.hid hst5
                        have HV5 := Lib.hid (HV8.out.other (p := ⟨G, 1 + p, none⟩) (.int .u64 (nd (C (sy p')) 0 (sy p') 0 : Nat)) (show G ≠ V by omega))
                        clear hq2 hst5 KC hce hcx hnd hpp
                        go_upto_region 28 with fail
                        generalize World.setCell _ _ _ = w10 at HST5 HV5 ⊢
                        have hpe := HPE.out
                        have hsub : (p : Int) - 1 = (p' : Nat) := by omega
                        obtain ⟨m2, hm2⟩ : ∃ m, pc p' = m + 1 := by
                          unfold pc
                          split
                          · exact ⟨511, rfl⟩
                          · exact ⟨p' - 1, by omega⟩
                        have hm25 : (m2 : Int) < 512 := by
                          unfold pc at hm2
                          split at hm2 <;> omega
                        have hpa := pc_and p' (by omega)
                        rw [show pc p' - 1 = m2 by omega] at hpa
                        have k10 : w10.cell? ⟨G, 1 + m2, none⟩ = some (.int .u64 (nv (m2 + 1) : Nat)) := by
                          have h9 := HST5.out.g.cell (m2 + 1) (by omega)
                          rw [Nat.add_comm 1 m2, h9, ← hm2]
                          unfold ndV
                          rw [shN_pc (by omega)]
                        have kV10 := HV5.out.cell 0 (by omega)
                        have zV10 := HV5.out.frozen 0
                        have hst6 := HST5.out.setO (b := V) (Nat.le_trans HRR.out (Nat.le_of_lt hVR)) (by omega) LH.out LG.out 0 (.int .u64 (nv (m2 + 1) : Nat))
                        have hV6 := HV5.out.set_ 0 (.int .u64 (nv (m2 + 1) : Nat))
                        have HST6 := Lib.hid hst6
                        have HV6 := Lib.hid hV6
                        have HM2 := Lib.hid hm2
                        clear hst6 hV6 kG zG kV hm2 hpe
                        go_wp2_with fail
                        have hpe := HPE.out
                        refine ⟨⟨p', by omega, by omega, rfl, HQ2.out, HST6.out, HV6.out.congr fun k hk => ?_⟩, by simp [intOf]; omega⟩
                        rw [show k = 0 by omega, updV_same, HM2.out]
                      · have hdl : decide ((C (sy p') : Int) < (x : Int)) = false := decide_eq_false hlt
                        go_wp2_with fail
                        refine (KC.out _ kV).mono ?_
                        rintro e w9 ⟨rfl, h9⟩
                        have h9 := h9.symm
                        subst h9
                        have hst3 := (HW8.out.setG lG HHG.out (1 + p) (.int .u64 (nd x 0 n 0 : Nat)) (nvv' := ndV (insN nv p P (nd x 0 n 0))) (by rw [Nat.add_comm 1 p]; exact insN_upd nv p P _))
                        have kG : wr.cell? ⟨G, 1 + p, none⟩ = some (ndV (shN nv p P) (1 + p)) := HW8.out.g.cell (1 + p) (by omega)
                        have zG := HW8.out.g.frozen (1 + p)
                        have eP := and32 p 9 (by omega) (by omega) 511 (by decide)
                        rw [Nat.mod_eq_of_lt (show p < 2 ^ 9 by omega)] at eP
                        have hnext := HSTEP.out p hp1 (by omega) HQ.out (.inr (by rw [show p - 1 = p' by have := HPE.out; omega]; omega))
                        have KM := Lib.hid fun wx => makeNode_any wx x n (by omega) (by omega)
                        generalize nd x 0 n 0 = z at *
                        have HST3 := Lib.hid hst3
                        have HNEXT := Lib.hid hnext
                        clear hst3 hnext
                        go_wp2_with fail
                        refine (KM.out _).mono ?_
                        rintro e w5 ⟨rfl, h9⟩
                        have h9 := h9.symm
                        subst h9
                        go_wp2_with fail
                        refine ⟨⟨n + 1, _, _, by omega, by go_num, HNEXT.out, HST3.out⟩, by simp [intOf]; omega⟩
                    · have hdb : decide ((b : Int) < (p : Int)) = false := decide_eq_false hpb
                      have hst3 := (HW8.out.setG lG HHG.out (1 + p) (.int .u64 (nd x 0 n 0 : Nat)) (nvv' := ndV (insN nv p P (nd x 0 n 0))) (by rw [Nat.add_comm 1 p]; exact insN_upd nv p P _))
                      have kG : wr.cell? ⟨G, 1 + p, none⟩ = some (ndV (shN nv p P) (1 + p)) := HW8.out.g.cell (1 + p) (by omega)
                      have zG := HW8.out.g.frozen (1 + p)
                      have eP := and32 p 9 (by omega) (by omega) 511 (by decide)
                      rw [Nat.mod_eq_of_lt (show p < 2 ^ 9 by omega)] at eP
                      have hnext := HSTEP.out p hp1 (by omega) HQ.out (.inl (by omega))
                      have KM := Lib.hid fun wx => makeNode_any wx x n (by omega) (by omega)
                      generalize nd x 0 n 0 = z at *
                      have HST3 := Lib.hid hst3
                      have HNEXT := Lib.hid hnext
                      clear hst3 hnext
                      go_wp2_with fail
                      refine (KM.out _).mono ?_
                      rintro e w5 ⟨rfl, h9⟩
                      have h9 := h9.symm
                      subst h9
                      go_wp2_with fail
                      refine ⟨⟨n + 1, _, _, by omega, by go_num, HNEXT.out, HST3.out⟩, by simp [intOf]; omega⟩
                · obtain rfl : S = n := by omega
                  go_wp2_with fail
                  refine bodyPost_end (results_none rfl _ _ _) rfl ?_
                  exact ⟨rfl, by rw [HF1.out]; exact HWR.out.h, nv, HWR.out.g, ⟨sy, HI.out⟩, HWR.out.only⟩
        · obtain ⟨m, rfl⟩ : ∃ m, n = m + 1 := ⟨n - 1, by omega⟩
          have k1 : wr.cell? ⟨R, m * 2, none⟩ = some (.int .u32 (hc C m S : Nat)) := HWR.out.r.cellv _ (by omega) _ (by unfold rk2; rw [if_pos (by omega), if_pos (by omega), show m * 2 / 2 = m by omega])
          have k2 : wr.cell? ⟨R, (m + 1) * 2, none⟩ = some (.int .u32 (bs C S (m + 1) : Nat)) := HWR.out.r.cellv _ (by omega) _ (by unfold rk2; rw [if_pos (by omega), if_neg (by omega), show (m + 1) * 2 / 2 = m + 1 by omega])
          have z1 := HWR.out.r.frozen (m * 2)
          have hst := (HWR.out.drewN 1).setR (Nat.le_of_eq HR.out) lH lG (m * 2) (.int .u32 (hc C m S + bs C S (m + 1) : Nat)) (rk2_step rfl rfl)
          have hle1 := hc_le (C := C) m S
          have hle2 := bs_le (C := C) (S := S) (m + 1)
          generalize hc C m S = a at *
          generalize bs C S (m + 1) = b at *
          have HST := Lib.hid hst
          clear hst
          go_upto_region 13 with fail
          refine wp_region_noPanic ?_
          refine wp_region_quiet_tail 12 (by kernel_rfl) (by kernel_rfl) ?_
          simp only [List.take_succ_cons, List.take_zero, List.drop_succ_cons, List.drop_zero]
          repeat (go_big_quiet_step (fail))
          refine wpQuiet_nil ?_
          go_wp2_with fail
          refine NoPanic.normal ?_
          go_wp2_with fail
          refine ⟨⟨m, by omega, by go_num, HST.out⟩, by simp [intOf]⟩
end
end Go.Proofs.YthkklojjpgjiiaaFmt
