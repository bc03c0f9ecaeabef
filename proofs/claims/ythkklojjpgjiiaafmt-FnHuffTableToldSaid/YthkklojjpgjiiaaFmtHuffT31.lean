/-
  fse.buildDtable: the decoding table. Conditions: those of the theorem.
  fse.decoder's methods. Conditions: those of each.
  fse.decoder.nextFast. Conditions: those of the theorem.
-/
import Derived.Test.YthkklojjpgjiiaaFmtHuffT29
import Derived.Test.YthkklojjpgjiiaaFmtHuffT30
import Derived.Test.YthkklojjpgjiiaaFmtHuffT05
namespace Go.Proofs.YthkklojjpgjiiaaFmt
open Go.RowKit Go.Extern.Stop Go.Stop Go.Extern

/-- what the call comes to: an error where a state would stand for ever, else the table -/
def DtPost (w : World) (cs : List Int) (lg D : Nat) (f : Nat → Value) (e : Ending) (w' : World) : Prop :=
  (ErrE e w' ∧ LoopsF cs lg ∧ Only (· = D) w w') ∨
  (e = .returned .nilIface ∧ ¬ LoopsF cs lg ∧ ∃ (fa : Nat → Value) (zb : Bool), (∀ k, k ≠ 521 → k ≠ 522 → k ≠ 524 → fa k = f k) ∧ fa 524 = .slice (some ⟨w.heap.size, 0, none⟩) (2 ^ lg) (2 ^ lg) ∧ fa 521 = .slice (some ⟨w.heap.size + 1, 0, none⟩) 256 256 ∧
    (zb = false → ∀ j, cs.getD j 0 < (2 ^ (lg - 1) : Nat)) ∧ DtW w D w.heap.size (2 ^ lg) fa zb (symF cs (2 ^ lg)) (bitsF cs lg) (baseF cs lg) (nuW cs (2 ^ lg) (2 ^ lg)) w')
set_option maxRecDepth 100000 in
set_option maxHeartbeats 6400000 in
theorem buildDtable_5 (F : Interp) {w : World} (hF : F.answers w.tape) {D m : Nat} {cs : List Int} {f : Nat → Value} (hr : RowF w D 98 534 f) (hm : cs.length = m) (hm2 : m ≤ 256) (hl : Least cs) (hs : sumA cs = 32)
    (hcs : ∀ k, k < m → f (256 + k) = .int .i16 (cs.getD k 0)) (h528 : f 528 = .int .u16 (m : Nat)) (h529 : f 529 = .int .u8 (5 : Nat)) (h524 : f 524 = .slice none 0 0) (h521 : f 521 = .slice none 0 0) (h522 : f 522 = .slice none 0 0) :
    Calls Tryf.prog 45 #[.pointer (some ⟨D, 0, none⟩)] w (DtPost w cs 5 D f) := by
  have hlt := hr.lt
  have k529 : w.cell? ⟨D, 529, none⟩ = some (.int .u8 (5 : Nat)) := hr.cellv _ (by omega) _ h529
  have KA := Lib.hid (allocDtable_5 hr h529 h524 h521 h522)
  have H528 := Lib.hid h528
  have H529 := Lib.hid h529
  have HM := Lib.hid hm
  have HL := Lib.hid hl
  have HS := Lib.hid hs
  have HCS := Lib.hid hcs
  have HF := Lib.hid hF
  clear hr h528 h529 h524 h521 h522 hm hl hs hcs hF
  obtain ⟨h, hh⟩ : ∃ h, w.heap.size = h := ⟨_, rfl⟩
  obtain ⟨fa, hfa⟩ : ∃ fa, updV (updV (updV f 524 (.slice (some ⟨h, 0, none⟩) 32 32)) 521 (.slice (some ⟨h + 1, 0, none⟩) 256 256)) 522 (.slice (some ⟨h + 2, 0, none⟩) 256 256) = fa := ⟨_, rfl⟩
  have hfo : ∀ k, k ≠ 521 → k ≠ 522 → k ≠ 524 → fa k = f k := fun k h1 h2 h4 => by rw [← hfa, updV_ne _ _ _ _ h2, updV_ne _ _ _ _ h1, updV_ne _ _ _ _ h4]
  have g524 : fa 524 = .slice (some ⟨h, 0, none⟩) 32 32 := by rw [← hfa, updV_ne _ _ _ _ (by omega), updV_ne _ _ _ _ (by omega), updV_same]
  have g521 : fa 521 = .slice (some ⟨h + 1, 0, none⟩) 256 256 := by rw [← hfa, updV_ne _ _ _ _ (by omega), updV_same]
  have g522 : fa 522 = .slice (some ⟨h + 2, 0, none⟩) 256 256 := by rw [← hfa, updV_same]
  have HH := Lib.hid hh
  have HFA := Lib.hid hfa
  have HFO := Lib.hid hfo
  have G524 := Lib.hid g524
  have G521 := Lib.hid g521
  have G522 := Lib.hid g522
  rw [hh] at hlt
  clear hh hfa hfo g524 g521 g522
  go_enter Tryf.func45, Tryf.ntmps45
  go_wp2_with fail
  refine KA.out.mono ?_
  rintro e w1 ⟨rfl, hA, hT, hU, hV, hO⟩
  rw [HH.out] at hT hU hV
  rw [HH.out, HFA.out] at hA
  have k522 : w1.cell? ⟨D, 522, none⟩ = some (.slice (some ⟨h + 2, 0, none⟩) 256 256) := hA.cellv _ (by omega) _ G522.out
  have k529 : w1.cell? ⟨D, 529, none⟩ = some (.int .u8 (5 : Nat)) := hA.cellv _ (by omega) _ (by rw [HFO.out 529 (by omega) (by omega) (by omega)]; exact H529.out)
  have k528 : w1.cell? ⟨D, 528, none⟩ = some (.int .u16 (m : Nat)) := hA.cellv _ (by omega) _ (by rw [HFO.out 528 (by omega) (by omega) (by omega)]; exact H528.out)
  have k530 : w1.cell? ⟨D, 530, none⟩ = some (fa 530) := hA.cell _ (by omega)
  have z530 := hA.frozen 530
  have hq : DtW w D h 32 fa false zf zf zf (fun _ => .int .u16 0) (w1.setCell ⟨D, 530, none⟩ (.bool false)) :=
    ⟨hA.set_ 530 _, hT.other _ (show D ≠ h by omega), hU.other _ (show D ≠ h + 1 by omega), hV.other _ (show D ≠ h + 2 by omega), hO.set_ rfl _⟩
  have HQ := Lib.hid hq
  have hwh : w.heap.size ≤ h := by rw [HH.out]; exact Nat.le_refl _
  have HWH := Lib.hid hwh
  clear hA hT hU hV hO hq hwh
  have hmi : (m : Int) ≤ 256 := by omega
  go_upto_region 7 with fail
  go_quiet (fail)
  generalize hwz : World.drewN _ nq = w2
  have hq2 := HQ.out.drewN nq
  rw [hwz] at hq2
  have HQ2 := Lib.hid hq2
  clear hq2 hwz k522 k529 k528 k530 z530
  go_wp2_with fail
  rename_i K1 a1
  have hcs' : ∀ k, k < m → fa (256 + k) = .int .i16 (cs.getD k 0) := fun k hk => by rw [HFO.out (256 + k) (by omega) (by omega) (by omega)]; exact HCS.out k hk
  have g529 : fa 529 = .int .u8 5 := by rw [HFO.out 529 (by omega) (by omega) (by omega)]; exact H529.out
  refine dt_l1_5 hlt HWH.out HM.out hm2 HL.out HS.out hcs' G524.out _ _ _ _ _ _ _ _ _ _ _ _ _ _ _ _ _ _ _ _ _ _ _ _ _ _ _ _ _ _ _ _ _ _ _ _ _ _ _ _ _ _ _ _ _ _ _ _ _ _ _ _ _ _ _ _ _ _ _ _ _ _ _ _ _ _ _ _ _ _ _ _ _ _ _ _ _ _ _ _ _ _ _ _ _ _ _ _ _ _ _ _ _ _ _ _ _ _ _ _ _ _ _ _ _ _ _ _ _ _ _ _ _ _ _ _ _ _ _ _ _ _ _ _ _ _ _ _ _ _ _ _ _ _ _ _ _ _ _ _ _ _ _ _ _ _ _ _ _ _ _ _ _ _ _ _ _ _ _ _ _ _ _ _ _ _ _ _ _ _ _ _ _ _ _ _ _ _ _ _ _ _ _ _ _ _ _ _ _ _ _ _ _ _ _ _ _ _ _ _ _ _ _ _ _ _ _ _ _ _ _ HQ2.out ?_
  rintro F' w' ⟨hi, zb, v11, hF', hhi, hzb, hW'⟩
  refine a1 _ _ ?_
  rw [dt_frame hF']
  have k528 : w'.cell? ⟨D, 528, none⟩ = some (.int .u16 (m : Nat)) := hW'.1.cellv 528 (by omega) _ (by rw [updV_ne _ _ _ _ (by omega), HFO.out 528 (by omega) (by omega) (by omega)]; exact H528.out)
  have KT := Lib.hid (fun wx => tableStep_any 32 wx (by omega))
  rw [show stepOf 32 = 23 from rfl] at KT
  have HW' := Lib.hid hW'
  have HHI := Lib.hid hhi
  have HZB := Lib.hid hzb
  have HCS' := Lib.hid hcs'
  have G529 := Lib.hid g529
  clear hF' hW' hhi hzb hcs' g529 a1
  go_wp2_with fail
  refine (KT.out _).mono ?_
  rintro e w3 ⟨rfl, rfl⟩
  go_upto_region 21 with fail
  go_quiet (fail)
  generalize hwz : World.drewN _ nq = w4
  have hq2 := HW'.out.drewN nq
  rw [hwz] at hq2
  have HW4 := Lib.hid hq2
  clear hq2 hwz k528
  go_wp2_with fail
  rename_i K2 a2
  refine dt_l2_5 hlt HWH.out HM.out hm2 HL.out HS.out HCS'.out G524.out (by unfold highF; rw [HM.out]; exact HHI.out) _ _ _ _ _ _ _ _ _ _ _ _ _ _ _ _ _ _ _ _ _ _ _ _ _ _ _ _ _ _ _ _ _ _ _ _ _ _ _ _ _ _ _ _ _ _ _ _ _ _ _ _ _ _ _ _ _ _ _ _ _ _ _ _ _ _ _ _ _ _ _ _ _ _ _ _ _ _ _ _ _ _ _ _ _ _ _ _ _ _ _ _ _ _ _ _ _ _ _ _ _ _ _ _ _ _ _ _ _ _ _ _ _ _ _ _ _ _ _ _ _ _ _ _ _ _ _ _ _ _ _ _ _ _ _ _ _ _ _ _ _ _ _ _ _ _ _ _ _ _ _ _ _ _ _ _ _ _ _ _ _ _ _ _ _ _ _ _ _ _ _ _ _ _ _ _ _ _ _ _ _ _ _ _ _ _ _ _ _ _ _ _ _ _ _ _ _ _ _ _ _ _ _ _ _ _ _ _ _ HW4.out ?_
  rintro F2 w5 ⟨v4, hF2, hW5⟩
  refine a2 _ _ ?_
  rw [dt_frame hF2]
  have k529 : w5.cell? ⟨D, 529, none⟩ = some (.int .u8 5) := hW5.1.cellv 529 (by omega) _ (by rw [updV_ne _ _ _ _ (by omega)]; exact G529.out)
  have k524 : w5.cell? ⟨D, 524, none⟩ = some (.slice (some ⟨h, 0, none⟩) 32 32) := hW5.1.cellv 524 (by omega) _ (by rw [updV_ne _ _ _ _ (by omega)]; exact G524.out)
  have HW5 := Lib.hid hW5
  clear hF2 hW5 a2
  go_wp2_with fail
  rename_i K3 a3
  refine dt_l3_5 F HF.out hlt HWH.out HM.out hm2 HL.out HS.out HCS'.out G524.out G529.out _ _ _ _ _ _ _ _ _ _ _ _ _ _ _ _ _ _ _ _ _ _ _ _ _ _ _ _ _ _ _ _ _ _ _ _ _ _ _ _ _ _ _ _ _ _ _ _ _ _ _ _ _ _ _ _ _ _ _ _ _ _ _ _ _ _ _ _ _ _ _ _ _ _ _ _ _ _ _ _ _ _ _ _ _ _ _ _ _ _ _ _ _ _ _ _ _ _ _ _ _ _ _ _ _ _ _ _ _ _ _ _ _ _ _ _ _ _ _ _ _ _ _ _ _ _ _ _ _ _ _ _ _ _ _ _ _ _ _ _ _ _ _ _ _ _ _ _ _ _ _ _ _ _ _ _ _ _ _ _ _ _ _ _ _ _ _ _ _ _ _ _ _ _ _ _ _ _ _ _ _ _ _ _ _ _ _ _ _ _ _ _ _ _ _ _ _ _ _ _ _ _ _ _ _ _ _ _ _ _ _ _ _ HW5.out ?_ ?_
  · rintro F3 w6 hd hs ⟨b, s, h2, hc⟩ hloops hon
    have hfr : DtR (.iface 107 (.pointer (some ⟨b, 0, none⟩))) F3 := ⟨hd, hs, h2⟩
    rw [dt_ret hfr]
    have HC := Lib.hid hc
    have HLO := Lib.hid hloops
    have HON := Lib.hid hon
    clear hd hs h2 hc hloops hon hfr
    go_wp2_with fail
    go_ret
    exact .inl ⟨⟨b, s, rfl, HC.out⟩, HLO.out, HON.out⟩
  · intro F3 w6 hd hs hno hW6
    refine a3 _ _ ?_
    rw [dt_ret (dt_any hd hs)]
    have HNO := Lib.hid hno
    have HW6 := Lib.hid hW6
    clear hd hs hno hW6 a3
    go_wp2_with fail
    go_ret
    refine .inr ⟨rfl, HNO.out, fa, zb, HFO.out, ?_, ?_, fun h0 j => ?_, ?_⟩
    · rw [HH.out]; exact G524.out
    · rw [HH.out]; exact G521.out
    · rcases Nat.lt_or_ge j m with hj | hj
      · exact HZB.out h0 j hj
      · rw [List.getD_eq_getElem?_getD, List.getElem?_eq_none (by rw [HM.out]; omega)]
        show (0 : Int) < _
        decide
    · rw [HH.out]; exact HW6.out
set_option maxRecDepth 100000 in
set_option maxHeartbeats 6400000 in
theorem buildDtable_6 (F : Interp) {w : World} (hF : F.answers w.tape) {D m : Nat} {cs : List Int} {f : Nat → Value} (hr : RowF w D 98 534 f) (hm : cs.length = m) (hm2 : m ≤ 256) (hl : Least cs) (hs : sumA cs = 64)
    (hcs : ∀ k, k < m → f (256 + k) = .int .i16 (cs.getD k 0)) (h528 : f 528 = .int .u16 (m : Nat)) (h529 : f 529 = .int .u8 (6 : Nat)) (h524 : f 524 = .slice none 0 0) (h521 : f 521 = .slice none 0 0) (h522 : f 522 = .slice none 0 0) :
    Calls Tryf.prog 45 #[.pointer (some ⟨D, 0, none⟩)] w (DtPost w cs 6 D f) := by
  have hlt := hr.lt
  have k529 : w.cell? ⟨D, 529, none⟩ = some (.int .u8 (6 : Nat)) := hr.cellv _ (by omega) _ h529
  have KA := Lib.hid (allocDtable_6 hr h529 h524 h521 h522)
  have H528 := Lib.hid h528
  have H529 := Lib.hid h529
  have HM := Lib.hid hm
  have HL := Lib.hid hl
  have HS := Lib.hid hs
  have HCS := Lib.hid hcs
  have HF := Lib.hid hF
  clear hr h528 h529 h524 h521 h522 hm hl hs hcs hF
  obtain ⟨h, hh⟩ : ∃ h, w.heap.size = h := ⟨_, rfl⟩
  obtain ⟨fa, hfa⟩ : ∃ fa, updV (updV (updV f 524 (.slice (some ⟨h, 0, none⟩) 64 64)) 521 (.slice (some ⟨h + 1, 0, none⟩) 256 256)) 522 (.slice (some ⟨h + 2, 0, none⟩) 256 256) = fa := ⟨_, rfl⟩
  have hfo : ∀ k, k ≠ 521 → k ≠ 522 → k ≠ 524 → fa k = f k := fun k h1 h2 h4 => by rw [← hfa, updV_ne _ _ _ _ h2, updV_ne _ _ _ _ h1, updV_ne _ _ _ _ h4]
  have g524 : fa 524 = .slice (some ⟨h, 0, none⟩) 64 64 := by rw [← hfa, updV_ne _ _ _ _ (by omega), updV_ne _ _ _ _ (by omega), updV_same]
  have g521 : fa 521 = .slice (some ⟨h + 1, 0, none⟩) 256 256 := by rw [← hfa, updV_ne _ _ _ _ (by omega), updV_same]
  have g522 : fa 522 = .slice (some ⟨h + 2, 0, none⟩) 256 256 := by rw [← hfa, updV_same]
  have HH := Lib.hid hh
  have HFA := Lib.hid hfa
  have HFO := Lib.hid hfo
  have G524 := Lib.hid g524
  have G521 := Lib.hid g521
  have G522 := Lib.hid g522
  rw [hh] at hlt
  clear hh hfa hfo g524 g521 g522
  go_enter Tryf.func45, Tryf.ntmps45
  go_wp2_with fail
  refine KA.out.mono ?_
  rintro e w1 ⟨rfl, hA, hT, hU, hV, hO⟩
  rw [HH.out] at hT hU hV
  rw [HH.out, HFA.out] at hA
  have k522 : w1.cell? ⟨D, 522, none⟩ = some (.slice (some ⟨h + 2, 0, none⟩) 256 256) := hA.cellv _ (by omega) _ G522.out
  have k529 : w1.cell? ⟨D, 529, none⟩ = some (.int .u8 (6 : Nat)) := hA.cellv _ (by omega) _ (by rw [HFO.out 529 (by omega) (by omega) (by omega)]; exact H529.out)
  have k528 : w1.cell? ⟨D, 528, none⟩ = some (.int .u16 (m : Nat)) := hA.cellv _ (by omega) _ (by rw [HFO.out 528 (by omega) (by omega) (by omega)]; exact H528.out)
  have k530 : w1.cell? ⟨D, 530, none⟩ = some (fa 530) := hA.cell _ (by omega)
  have z530 := hA.frozen 530
  have hq : DtW w D h 64 fa false zf zf zf (fun _ => .int .u16 0) (w1.setCell ⟨D, 530, none⟩ (.bool false)) :=
    ⟨hA.set_ 530 _, hT.other _ (show D ≠ h by omega), hU.other _ (show D ≠ h + 1 by omega), hV.other _ (show D ≠ h + 2 by omega), hO.set_ rfl _⟩
  have HQ := Lib.hid hq
  have hwh : w.heap.size ≤ h := by rw [HH.out]; exact Nat.le_refl _
  have HWH := Lib.hid hwh
  clear hA hT hU hV hO hq hwh
  have hmi : (m : Int) ≤ 256 := by omega
  go_upto_region 7 with fail
  go_quiet (fail)
  generalize hwz : World.drewN _ nq = w2
  have hq2 := HQ.out.drewN nq
  rw [hwz] at hq2
  have HQ2 := Lib.hid hq2
  clear hq2 hwz k522 k529 k528 k530 z530
  go_wp2_with fail
  rename_i K1 a1
  have hcs' : ∀ k, k < m → fa (256 + k) = .int .i16 (cs.getD k 0) := fun k hk => by rw [HFO.out (256 + k) (by omega) (by omega) (by omega)]; exact HCS.out k hk
  have g529 : fa 529 = .int .u8 6 := by rw [HFO.out 529 (by omega) (by omega) (by omega)]; exact H529.out
  refine dt_l1_6 hlt HWH.out HM.out hm2 HL.out HS.out hcs' G524.out _ _ _ _ _ _ _ _ _ _ _ _ _ _ _ _ _ _ _ _ _ _ _ _ _ _ _ _ _ _ _ _ _ _ _ _ _ _ _ _ _ _ _ _ _ _ _ _ _ _ _ _ _ _ _ _ _ _ _ _ _ _ _ _ _ _ _ _ _ _ _ _ _ _ _ _ _ _ _ _ _ _ _ _ _ _ _ _ _ _ _ _ _ _ _ _ _ _ _ _ _ _ _ _ _ _ _ _ _ _ _ _ _ _ _ _ _ _ _ _ _ _ _ _ _ _ _ _ _ _ _ _ _ _ _ _ _ _ _ _ _ _ _ _ _ _ _ _ _ _ _ _ _ _ _ _ _ _ _ _ _ _ _ _ _ _ _ _ _ _ _ _ _ _ _ _ _ _ _ _ _ _ _ _ _ _ _ _ _ _ _ _ _ _ _ _ _ _ _ _ _ _ _ _ _ _ _ _ _ _ _ HQ2.out ?_
  rintro F' w' ⟨hi, zb, v11, hF', hhi, hzb, hW'⟩
  refine a1 _ _ ?_
  rw [dt_frame hF']
  have k528 : w'.cell? ⟨D, 528, none⟩ = some (.int .u16 (m : Nat)) := hW'.1.cellv 528 (by omega) _ (by rw [updV_ne _ _ _ _ (by omega), HFO.out 528 (by omega) (by omega) (by omega)]; exact H528.out)
  have KT := Lib.hid (fun wx => tableStep_any 64 wx (by omega))
  rw [show stepOf 64 = 43 from rfl] at KT
  have HW' := Lib.hid hW'
  have HHI := Lib.hid hhi
  have HZB := Lib.hid hzb
  have HCS' := Lib.hid hcs'
  have G529 := Lib.hid g529
  clear hF' hW' hhi hzb hcs' g529 a1
  go_wp2_with fail
  refine (KT.out _).mono ?_
  rintro e w3 ⟨rfl, rfl⟩
  go_upto_region 21 with fail
  go_quiet (fail)
  generalize hwz : World.drewN _ nq = w4
  have hq2 := HW'.out.drewN nq
  rw [hwz] at hq2
  have HW4 := Lib.hid hq2
  clear hq2 hwz k528
  go_wp2_with fail
  rename_i K2 a2
  refine dt_l2_6 hlt HWH.out HM.out hm2 HL.out HS.out HCS'.out G524.out (by unfold highF; rw [HM.out]; exact HHI.out) _ _ _ _ _ _ _ _ _ _ _ _ _ _ _ _ _ _ _ _ _ _ _ _ _ _ _ _ _ _ _ _ _ _ _ _ _ _ _ _ _ _ _ _ _ _ _ _ _ _ _ _ _ _ _ _ _ _ _ _ _ _ _ _ _ _ _ _ _ _ _ _ _ _ _ _ _ _ _ _ _ _ _ _ _ _ _ _ _ _ _ _ _ _ _ _ _ _ _ _ _ _ _ _ _ _ _ _ _ _ _ _ _ _ _ _ _ _ _ _ _ _ _ _ _ _ _ _ _ _ _ _ _ _ _ _ _ _ _ _ _ _ _ _ _ _ _ _ _ _ _ _ _ _ _ _ _ _ _ _ _ _ _ _ _ _ _ _ _ _ _ _ _ _ _ _ _ _ _ _ _ _ _ _ _ _ _ _ _ _ _ _ _ _ _ _ _ _ _ _ _ _ _ _ _ _ _ _ _ HW4.out ?_
  rintro F2 w5 ⟨v4, hF2, hW5⟩
  refine a2 _ _ ?_
  rw [dt_frame hF2]
  have k529 : w5.cell? ⟨D, 529, none⟩ = some (.int .u8 6) := hW5.1.cellv 529 (by omega) _ (by rw [updV_ne _ _ _ _ (by omega)]; exact G529.out)
  have k524 : w5.cell? ⟨D, 524, none⟩ = some (.slice (some ⟨h, 0, none⟩) 64 64) := hW5.1.cellv 524 (by omega) _ (by rw [updV_ne _ _ _ _ (by omega)]; exact G524.out)
  have HW5 := Lib.hid hW5
  clear hF2 hW5 a2
  go_wp2_with fail
  rename_i K3 a3
  refine dt_l3_6 F HF.out hlt HWH.out HM.out hm2 HL.out HS.out HCS'.out G524.out G529.out _ _ _ _ _ _ _ _ _ _ _ _ _ _ _ _ _ _ _ _ _ _ _ _ _ _ _ _ _ _ _ _ _ _ _ _ _ _ _ _ _ _ _ _ _ _ _ _ _ _ _ _ _ _ _ _ _ _ _ _ _ _ _ _ _ _ _ _ _ _ _ _ _ _ _ _ _ _ _ _ _ _ _ _ _ _ _ _ _ _ _ _ _ _ _ _ _ _ _ _ _ _ _ _ _ _ _ _ _ _ _ _ _ _ _ _ _ _ _ _ _ _ _ _ _ _ _ _ _ _ _ _ _ _ _ _ _ _ _ _ _ _ _ _ _ _ _ _ _ _ _ _ _ _ _ _ _ _ _ _ _ _ _ _ _ _ _ _ _ _ _ _ _ _ _ _ _ _ _ _ _ _ _ _ _ _ _ _ _ _ _ _ _ _ _ _ _ _ _ _ _ _ _ _ _ _ _ _ _ _ _ _ _ HW5.out ?_ ?_
  · rintro F3 w6 hd hs ⟨b, s, h2, hc⟩ hloops hon
    have hfr : DtR (.iface 107 (.pointer (some ⟨b, 0, none⟩))) F3 := ⟨hd, hs, h2⟩
    rw [dt_ret hfr]
    have HC := Lib.hid hc
    have HLO := Lib.hid hloops
    have HON := Lib.hid hon
    clear hd hs h2 hc hloops hon hfr
    go_wp2_with fail
    go_ret
    exact .inl ⟨⟨b, s, rfl, HC.out⟩, HLO.out, HON.out⟩
  · intro F3 w6 hd hs hno hW6
    refine a3 _ _ ?_
    rw [dt_ret (dt_any hd hs)]
    have HNO := Lib.hid hno
    have HW6 := Lib.hid hW6
    clear hd hs hno hW6 a3
    go_wp2_with fail
    go_ret
    refine .inr ⟨rfl, HNO.out, fa, zb, HFO.out, ?_, ?_, fun h0 j => ?_, ?_⟩
    · rw [HH.out]; exact G524.out
    · rw [HH.out]; exact G521.out
    · rcases Nat.lt_or_ge j m with hj | hj
      · exact HZB.out h0 j hj
      · rw [List.getD_eq_getElem?_getD, List.getElem?_eq_none (by rw [HM.out]; omega)]
        show (0 : Int) < _
        decide
    · rw [HH.out]; exact HW6.out
theorem buildDtable_any (F : Interp) {w : World} (hF : F.answers w.tape) {D m lg S : Nat} {cs : List Int} {f : Nat → Value} (hlg : lg = 5 ∧ S = 32 ∨ lg = 6 ∧ S = 64) (hr : RowF w D 98 534 f) (hm : cs.length = m) (hm2 : m ≤ 256) (hl : Least cs) (hs : sumA cs = S)
    (hcs : ∀ k, k < m → f (256 + k) = .int .i16 (cs.getD k 0)) (h528 : f 528 = .int .u16 (m : Nat)) (h529 : f 529 = .int .u8 (lg : Nat)) (h524 : f 524 = .slice none 0 0) (h521 : f 521 = .slice none 0 0) (h522 : f 522 = .slice none 0 0) :
    Calls Tryf.prog 45 #[.pointer (some ⟨D, 0, none⟩)] w (DtPost w cs lg D f) := by
  rcases hlg with ⟨rfl, rfl⟩ | ⟨rfl, rfl⟩
  · exact buildDtable_5 F hF hr hm hm2 hl hs hcs h528 h529 h524 h521 h522
  · exact buildDtable_6 F hF hr hm hm2 hl hs hcs h528 h529 h524 h521 h522
end Go.Proofs.YthkklojjpgjiiaaFmt
namespace Go.Proofs.YthkklojjpgjiiaaFmt
open Go.RowKit Go.Extern.Stop Go.Stop Go.Extern

/-- the cells of a state -/
def dcS (D T S a : Nat) : Nat → Value := fun k => if k = 0 then .int .u16 (a : Nat) else if k = 1 then .pointer (some ⟨D, 514, none⟩) else .slice (some ⟨T, 0, none⟩) S S
theorem dcS_set (D T S a b : Nat) : ∀ k, k < 3 → updV (dcS D T S a) 0 (.int .u16 (b : Nat)) k = dcS D T S b k := by
  intro k _
  unfold updV dcS
  by_cases h : k = 0
  · rw [if_pos h, if_pos h]
  · rw [if_neg h, if_neg h, if_neg h]
theorem BrIn.base {w w0 : World} {D N o : Nat} {T : TypeId} {A : Option Addr} {n c off rd : Nat} {l : List UInt8} {f0 : Nat → Value} (h : BrIn w D T N o A n c l f0 off rd w0) : BrIn w D T N o A n c l f0 off rd w := by
  obtain ⟨f, val, hr, hk, hs, hb, hon⟩ := h
  exact ⟨f, val, hr, hk, hs, hb, Only.refl _ _⟩
theorem BrIn.only {w w0 : World} {D N o : Nat} {T : TypeId} {A : Option Addr} {n c off rd : Nat} {l : List UInt8} {f0 : Nat → Value} (h : BrIn w D T N o A n c l f0 off rd w0) : Only (· = D) w0 w := by
  obtain ⟨f, val, hr, hk, hs, hb, hon⟩ := h
  exact hon
theorem BrIn.otherSet {w w0 : World} {D N o : Nat} {T : TypeId} {A : Option Addr} {n c off rd : Nat} {l : List UInt8} {f0 : Nat → Value} (h : BrIn w D T N o A n c l f0 off rd w0) {p : Addr} (hp : p.block ≠ D) (v : Value) : BrIn (w.setCell p v) D T N o A n c l f0 off rd (w.setCell p v) := by
  obtain ⟨f, val, hr, hk, hs, hb, hon⟩ := h
  exact ⟨f, val, hr.other v hp, hk, hs, hb, Only.refl _ _⟩
theorem BrIn.allocN {w w0 : World} {D N o : Nat} {T : TypeId} {A : Option Addr} {n c off rd : Nat} {l : List UInt8} {f0 : Nat → Value} (h : BrIn w D T N o A n c l f0 off rd w0) (ob : Obj) : BrIn (w.alloc ob) D T N o A n c l f0 off rd (w.alloc ob) := by
  obtain ⟨f, val, hr, hk, hs, hb, hon⟩ := h
  exact ⟨f, val, hr.alloc ob, hk, hs, hb, Only.refl _ _⟩

section
variable {w : World} {D G T S : Nat} {A : Option Addr} {n c off rd : Nat} {l : List UInt8} {f0 : Nat → Value} {sy bt bs : Nat → Nat}
set_option maxRecDepth 100000 in
set_option maxHeartbeats 1600000 in
/-- the first state is read -/
theorem dcInit_any {a : Nat} {g0 : Nat → Value} (h : BrIn w D 98 534 514 A n c l f0 off rd w) (hG : RowF w G 167 3 g0) (hDG : D ≠ G) (lg : Nat) (hlg : lg ≤ 16) (hrd : lg ≤ 64 - rd) (ha : numF l (leftB off rd - lg) lg = a) :
    Calls Tryf.prog 65 #[.pointer (some ⟨G, 0, none⟩), .pointer (some ⟨D, 514, none⟩), .slice (some ⟨T, 0, none⟩) S S, .int .u8 (lg : Nat)] w fun e w' => e = .returned (.tuple #[]) ∧
      BrIn w' D 98 534 514 A n c l f0 off (rd + lg) w' ∧ RowF w' G 167 3 (dcS D T S a) ∧ Only (fun k => k = D ∨ k = G) w w' := by
  have c2 := hG.cell 2 (by omega)
  have c1 := hG.cell 1 (by omega)
  have f2 := hG.frozen 2
  have f1 := hG.frozen 1
  have hb1 : BrIn ((w.setCell ⟨G, 2, none⟩ (.slice (some ⟨T, 0, none⟩) S S)).setCell ⟨G, 1, none⟩ (.pointer (some ⟨D, 514, none⟩))) D 98 534 514 A n c l f0 off rd ((w.setCell ⟨G, 2, none⟩ (.slice (some ⟨T, 0, none⟩) S S)).setCell ⟨G, 1, none⟩ (.pointer (some ⟨D, 514, none⟩))) :=
    (h.otherSet (p := ⟨G, 2, none⟩) (Ne.symm hDG) _).otherSet (p := ⟨G, 1, none⟩) (Ne.symm hDG) _
  have hg1 := (hG.set_ 2 (.slice (some ⟨T, 0, none⟩) S S)).set_ 1 (.pointer (some ⟨D, 514, none⟩))
  have ho1 : Only (fun k => k = D ∨ k = G) w ((w.setCell ⟨G, 2, none⟩ (.slice (some ⟨T, 0, none⟩) S S)).setCell ⟨G, 1, none⟩ (.pointer (some ⟨D, 514, none⟩))) :=
    ((Only.refl (fun k => k = D ∨ k = G) w).set_ (p := ⟨G, 2, none⟩) (.inr rfl) _).set_ (p := ⟨G, 1, none⟩) (.inr rfl) _
  have KG := Lib.hid (getBits_any hb1 (by omega) lg hlg hrd)
  rw [ha] at KG
  have HG1 := Lib.hid hg1
  have HO1 := Lib.hid ho1
  clear h hG hb1 hg1 ho1 ha
  go_enter Tryf.func65, Tryf.ntmps65
  go_wp2_with fail
  refine KG.out.mono ?_
  rintro e w2 ⟨rfl, hb2⟩
  have hg2 := hb2.only.row HG1.out (fun e => hDG e.symm)
  have c0 := hg2.cell 0 (by omega)
  have z0 := hg2.frozen 0
  have HB2 := Lib.hid hb2
  have HG2 := Lib.hid hg2
  clear hb2 hg2
  go_wp2_with fail
  refine bodyPost_end (results_none rfl _ _ _) rfl ?_
  refine ⟨rfl, HB2.out.otherSet (p := ⟨G, 0, none⟩) (Ne.symm hDG) _, (HG2.out.set_ 0 (.int .u16 (a : Nat))).congr fun k hk => ?_, (HO1.out.trans (HB2.out.only.mono fun _ h => .inl h)).set_ (p := ⟨G, 0, none⟩) (.inr rfl) _⟩
  unfold updV dcS
  rcases (show k = 0 ∨ k = 1 ∨ k = 2 by omega) with rfl | rfl | rfl <;> rfl

set_option maxRecDepth 100000 in
set_option maxHeartbeats 1600000 in
/-- a symbol, and the next state -/
theorem dcNext_any {a v : Nat} (h : BrIn w D 98 534 514 A n c l f0 off rd w) (hG : RowF w G 167 3 (dcS D T S a)) (hT : RowF w T 162 (3 * S) (dcV sy bt bs)) (hDG : D ≠ G) (hDT : D ≠ T) (ha : a < S) (hb : bt a ≤ 16) (hrd : bt a ≤ 64 - rd)
    (hv : numF l (leftB off rd - bt a) (bt a) = v) (hlt : bs a + v < 65536) :
    Calls Tryf.prog 68 #[.pointer (some ⟨G, 0, none⟩)] w fun e w' => e = .returned (.int .u8 (sy a : Nat)) ∧
      BrIn w' D 98 534 514 A n c l f0 off (rd + bt a) w' ∧ RowF w' G 167 3 (dcS D T S (bs a + v)) ∧ Only (fun k => k = D ∨ k = G) w w' := by
  have c0 : w.cell? ⟨G, 0, none⟩ = some (.int .u16 (a : Nat)) := hG.cellv 0 (by omega) _ rfl
  have c1 : w.cell? ⟨G, 1, none⟩ = some (.pointer (some ⟨D, 514, none⟩)) := hG.cellv 1 (by omega) _ rfl
  have c2 : w.cell? ⟨G, 2, none⟩ = some (.slice (some ⟨T, 0, none⟩) S S) := hG.cellv 2 (by omega) _ rfl
  have t2 : w.cell? ⟨T, a * 3 + 2, none⟩ = some (.int .u8 (bt a : Nat)) := hT.cellv _ (by omega) _ (by unfold dcV; rw [if_neg (by omega), if_neg (by omega), show (a * 3 + 2) / 3 = a by omega])
  have hai : (a : Int) < (S : Int) := by omega
  have HB := Lib.hid h
  have HG := Lib.hid hG
  have HT := Lib.hid hT
  obtain ⟨bb, hbb⟩ : ∃ bb, bt a = bb := ⟨_, rfl⟩
  rw [hbb] at t2 hv hb hrd ⊢
  have HBB := Lib.hid hbb
  have HV := Lib.hid hv
  clear h hG hT hv hbb
  go_enter Tryf.func68, Tryf.ntmps68
  go_upto_region 1 with fail
  go_quiet (fail)
  generalize hwz : World.drewN w nq = w1
  have hg1 := HG.out.drewN nq
  rw [hwz] at hg1
  have ht1 := HT.out.drewN nq
  rw [hwz] at ht1
  have e1 : w1.cell? ⟨G, 1, none⟩ = some (.pointer (some ⟨D, 514, none⟩)) := hg1.cellv 1 (by omega) _ rfl
  have e2 : w1.cell? ⟨T, a * 3 + 2, none⟩ = some (.int .u8 (bb : Nat)) := ht1.cellv _ (by omega) _ (by unfold dcV; rw [if_neg (by omega), if_neg (by omega), show (a * 3 + 2) / 3 = a by omega, HBB.out])
  have KGD := Lib.hid (fun q => (getBits_any (((HB.out.drewN nq).drewN q).base) (by omega) bb hb hrd))
  rw [HV.out] at KGD
  rw [hwz] at KGD
  have HG1 := Lib.hid hg1
  have HT1 := Lib.hid ht1
  have hon1 : Only (fun k => k = D ∨ k = G) w w1 := by rw [← hwz]; exact (Only.refl _ w).drewN nq
  have HON1 := Lib.hid hon1
  clear hg1 ht1 hon1 hwz c0 c1 c2 t2
  go_upto_region 2 with fail
  refine wp_region_quiet_tail 8 (by kernel_rfl) (by kernel_rfl) ?_
  simp only [List.take_succ_cons, List.take_zero, List.drop_succ_cons, List.drop_zero]
  repeat (go_big_quiet_step (fail))
  refine wpQuiet_nil ?_
  go_wp2_with fail
  refine (KGD.out 1).mono ?_
  rintro e w2 ⟨rfl, hb2⟩
  have hgd := (HG1.out.drewN 1)
  have hg2 := hb2.only.row hgd (fun e => hDG e.symm)
  have ht2 := hb2.only.row (HT1.out.drewN 1) (fun e => hDT e.symm)
  have e0 : w2.cell? ⟨G, 0, none⟩ = some (.int .u16 (a : Nat)) := hg2.cellv 0 (by omega) _ rfl
  have z0 := hg2.frozen 0
  have e3 : w2.cell? ⟨T, a * 3, none⟩ = some (.int .u16 (bs a : Nat)) := ht2.cellv _ (by omega) _ (by unfold dcV; rw [if_pos (by omega), show a * 3 / 3 = a by omega])
  have e4 : w2.cell? ⟨T, a * 3 + 1, none⟩ = some (.int .u8 (sy a : Nat)) := ht2.cellv _ (by omega) _ (by unfold dcV; rw [if_neg (by omega), if_pos (by omega), show (a * 3 + 1) / 3 = a by omega])
  have ew : IntKind.u16.wrap ((bs a : Int) + (v : Int)) = ((bs a + v : Nat) : Int) := by rw [IntKind.wrap_u16]; omega
  have hne : T ≠ G ∨ T = G := by omega
  have HB2 := Lib.hid hb2
  have HG2 := Lib.hid hg2
  have hfin : ∀ wz, wz = w2.setCell ⟨G, 0, none⟩ (.int .u16 (bs a + v : Nat)) → BrIn wz D 98 534 514 A n c l f0 off (rd + bb) wz ∧ RowF wz G 167 3 (dcS D T S (bs a + v)) ∧ Only (fun k => k = D ∨ k = G) w wz := by
    rintro wz rfl
    exact ⟨HB2.out.otherSet (p := ⟨G, 0, none⟩) (Ne.symm hDG) _, (HG2.out.set_ 0 _).congr (dcS_set D T S a (bs a + v)), ((HON1.out.drewN 1).trans (HB2.out.only.mono fun _ h => .inl h)).set_ (p := ⟨G, 0, none⟩) (.inr rfl) _⟩
  have HFIN := Lib.hid hfin
  clear hb2 hgd hg2 ht2 hne hfin
  go_wp2_with fail
  go_ret
  refine ⟨rfl, HFIN.out _ ?_⟩
  first
    | rfl
    | (rw [ew])
    | (congr 2; omega)

set_option maxRecDepth 100000 in
set_option maxHeartbeats 1600000 in
/-- the last symbol -/
theorem dcFinal_any {a : Nat} (hG : RowF w G 167 3 (dcS D T S a)) (hT : RowF w T 162 (3 * S) (dcV sy bt bs)) (ha : a < S) :
    Calls Tryf.prog 70 #[.pointer (some ⟨G, 0, none⟩)] w fun e w' => e = .returned (.int .u8 (sy a : Nat)) ∧ ∃ q, w' = w.drewN q := by
  have c0 : w.cell? ⟨G, 0, none⟩ = some (.int .u16 (a : Nat)) := hG.cellv 0 (by omega) _ rfl
  have c2 : w.cell? ⟨G, 2, none⟩ = some (.slice (some ⟨T, 0, none⟩) S S) := hG.cellv 2 (by omega) _ rfl
  have t1 : w.cell? ⟨T, a * 3 + 1, none⟩ = some (.int .u8 (sy a : Nat)) := hT.cellv _ (by omega) _ (by unfold dcV; rw [if_neg (by omega), if_pos (by omega), show (a * 3 + 1) / 3 = a by omega])
  have hai : (a : Int) < (S : Int) := by omega
  clear hG hT
  go_enter Tryf.func70, Tryf.ntmps70
  go_upto_region 1 with fail
  go_quiet (fail)
  go_wp2_with fail
  go_ret
  exact ⟨rfl, _, rfl⟩

set_option maxRecDepth 100000 in
set_option maxHeartbeats 1600000 in
/-- no bit is left, and the state wants some -/
theorem dcFinished_any {a : Nat} (h : BrIn w D 98 534 514 A n c l f0 off rd w) (hG : RowF w G 167 3 (dcS D T S a)) (hT : RowF w T 162 (3 * S) (dcV sy bt bs)) (ha : a < S) :
    Calls Tryf.prog 69 #[.pointer (some ⟨G, 0, none⟩)] w fun e w' => e = .returned (.bool (decide (leftB off rd = 0) && decide (0 < bt a))) ∧ ∃ q, w' = w.drewN q := by
  have c0 : w.cell? ⟨G, 0, none⟩ = some (.int .u16 (a : Nat)) := hG.cellv 0 (by omega) _ rfl
  have c1 : w.cell? ⟨G, 1, none⟩ = some (.pointer (some ⟨D, 514, none⟩)) := hG.cellv 1 (by omega) _ rfl
  have c2 : w.cell? ⟨G, 2, none⟩ = some (.slice (some ⟨T, 0, none⟩) S S) := hG.cellv 2 (by omega) _ rfl
  have t1 : w.cell? ⟨T, a * 3 + 2, none⟩ = some (.int .u8 (bt a : Nat)) := hT.cellv _ (by omega) _ (by unfold dcV; rw [if_neg (by omega), if_neg (by omega), show (a * 3 + 2) / 3 = a by omega])
  have hai : (a : Int) < (S : Int) := by omega
  have KF := Lib.hid (fun q => brFinished_any ((h.drewN q).base) (by omega))
  clear hG hT h
  by_cases h0 : leftB off rd = 0
  · rw [show decide (leftB off rd = 0) = true from decide_eq_true h0] at KF ⊢
    clear h0
    have hd : decide ((0 : Int) < (bt a : Int)) = decide (0 < bt a) := by
      by_cases hb : 0 < bt a
      · rw [decide_eq_true hb]; exact decide_eq_true (by omega)
      · rw [decide_eq_false hb]; exact decide_eq_false (by omega)
    go_enter Tryf.func69, Tryf.ntmps69
    go_upto_region 1 with fail
    go_quiet ((go_at_call 76; exact Calls.quiet_of_same ((KF.out _).mono fun _ _ h => ⟨h.1, h.2.symm⟩)))
    go_wp2_with fail
    go_ret
    exact ⟨by simp, _, rfl⟩
  · rw [show decide (leftB off rd = 0) = false from decide_eq_false h0] at KF ⊢
    clear h0
    go_enter Tryf.func69, Tryf.ntmps69
    go_upto_region 1 with fail
    go_quiet ((go_at_call 76; exact Calls.quiet_of_same ((KF.out _).mono fun _ _ h => ⟨h.1, h.2.symm⟩)))
    go_wp2_with fail
    go_ret
    exact ⟨by simp, _, rfl⟩
end
end Go.Proofs.YthkklojjpgjiiaaFmt
namespace Go.Proofs.YthkklojjpgjiiaaFmt
open Go.RowKit Go.Extern.Stop Go.Stop Go.Extern
section
variable {w : World} {D G T S : Nat} {A : Option Addr} {n c off rd : Nat} {l : List UInt8} {f0 : Nat → Value} {sy bt bs : Nat → Nat}
set_option maxRecDepth 100000 in
set_option maxHeartbeats 1600000 in
/-- the same where each state wants bits -/
theorem dcFast_any {a v : Nat} (h : BrIn w D 98 534 514 A n c l f0 off rd w) (hG : RowF w G 167 3 (dcS D T S a)) (hT : RowF w T 162 (3 * S) (dcV sy bt bs)) (hDG : D ≠ G) (ha : a < S) (hb1 : 1 ≤ bt a) (hb : bt a ≤ 16) (hrd : bt a ≤ 64 - rd)
    (hv : numF l (leftB off rd - bt a) (bt a) = v) (hlt : bs a + v < 65536) :
    Calls Tryf.prog 67 #[.pointer (some ⟨G, 0, none⟩)] w fun e w' => e = .returned (.int .u8 (sy a : Nat)) ∧
      BrIn w' D 98 534 514 A n c l f0 off (rd + bt a) w' ∧ RowF w' G 167 3 (dcS D T S (bs a + v)) ∧ Only (fun k => k = D ∨ k = G) w w' := by
  have c0 : w.cell? ⟨G, 0, none⟩ = some (.int .u16 (a : Nat)) := hG.cellv 0 (by omega) _ rfl
  have c1 : w.cell? ⟨G, 1, none⟩ = some (.pointer (some ⟨D, 514, none⟩)) := hG.cellv 1 (by omega) _ rfl
  have c2 : w.cell? ⟨G, 2, none⟩ = some (.slice (some ⟨T, 0, none⟩) S S) := hG.cellv 2 (by omega) _ rfl
  have t0 : w.cell? ⟨T, a * 3, none⟩ = some (.int .u16 (bs a : Nat)) := hT.cellv _ (by omega) _ (by unfold dcV; rw [if_pos (by omega), show a * 3 / 3 = a by omega])
  have t1 : w.cell? ⟨T, a * 3 + 1, none⟩ = some (.int .u8 (sy a : Nat)) := hT.cellv _ (by omega) _ (by unfold dcV; rw [if_neg (by omega), if_pos (by omega), show (a * 3 + 1) / 3 = a by omega])
  have t2 : w.cell? ⟨T, a * 3 + 2, none⟩ = some (.int .u8 (bt a : Nat)) := hT.cellv _ (by omega) _ (by unfold dcV; rw [if_neg (by omega), if_neg (by omega), show (a * 3 + 2) / 3 = a by omega])
  have hTlt := hT.lt
  have hGlt := hG.lt
  have hai : (a : Int) < (S : Int) := by omega
  have HB := Lib.hid h
  have HG := Lib.hid hG
  have HT := Lib.hid hT
  obtain ⟨bb, hbb⟩ : ∃ bb, bt a = bb := ⟨_, rfl⟩
  rw [hbb] at t2 hv hb hb1 hrd ⊢
  have HBB := Lib.hid hbb
  have HV := Lib.hid hv
  clear h hG hT hv hbb
  have hTne : T ≠ w.heap.size := by omega
  have hGne : G ≠ w.heap.size := by omega
  go_enter Tryf.func67, Tryf.ntmps67
  go_upto_region 1 with fail
  go_region
  obtain ⟨n0, hn0⟩ : ∃ n0, w.heap.size = n0 := ⟨_, rfl⟩
  rw [hn0]
  have hg1 := (HG.out.alloc (.cells #[.int .u16 (bs a : Nat), .int .u8 (sy a : Nat), .int .u8 (bb : Nat)] 162)).drewN 1
  have hr1 : RowF ((w.alloc (.cells #[.int .u16 (bs a : Nat), .int .u8 (sy a : Nat), .int .u8 (bb : Nat)] 162)).drewN 1) n0 162 3 (dcV (fun _ => sy a) (fun _ => bb) (fun _ => bs a)) := by
    have h := RowF.new w #[.int .u16 (bs a : Nat), .int .u8 (sy a : Nat), .int .u8 (bb : Nat)] 162 (dcV (fun _ => sy a) (fun _ => bb) (fun _ => bs a)) (fun k hk => by
      rcases (show k = 0 ∨ k = 1 ∨ k = 2 by simp at hk; omega) with rfl | rfl | rfl <;> rfl)
    rw [hn0] at h
    exact h.drewN 1
  have hb1' := ((HB.out.allocN (.cells #[.int .u16 (bs a : Nat), .int .u8 (sy a : Nat), .int .u8 (bb : Nat)] 162)).drewN 1).base
  have hon1 : Only (fun k => k = D ∨ k = G) w ((w.alloc (.cells #[.int .u16 (bs a : Nat), .int .u8 (sy a : Nat), .int .u8 (bb : Nat)] 162)).drewN 1) := ((Only.refl (fun k => k = D ∨ k = G) w).alloc _).drewN 1
  have hDn : D < n0 := by
    obtain ⟨f, val, hr, _⟩ := HB.out
    have := hr.lt
    omega
  generalize hwz : World.drewN (World.alloc w _) 1 = w1 at hg1 hr1 hb1' hon1
  have hwz' : World.drew (w.alloc (.cells #[.int .u16 (bs a : Nat), .int .u8 (sy a : Nat), .int .u8 (bb : Nat)] 162)) = w1 := hwz
  rw [hwz']
  have e1 : w1.cell? ⟨G, 1, none⟩ = some (.pointer (some ⟨D, 514, none⟩)) := hg1.cellv 1 (by omega) _ rfl
  have e2 : w1.cell? ⟨n0, 2, none⟩ = some (.int .u8 (bb : Nat)) := hr1.cellv 2 (by omega) _ rfl
  have KGD := Lib.hid (fun q => (getBitsFast_any ((hb1'.drewN q).base) (by omega) bb hb1 hb hrd))
  rw [HV.out] at KGD
  have HG1 := Lib.hid hg1
  have HR1 := Lib.hid hr1
  have HON1 := Lib.hid hon1
  clear hg1 hr1 hb1' hon1 hwz hwz' c0 c1 c2 t0 t1 t2 hTlt hGlt hTne hGne
  go_upto_region 2 with fail
  refine wp_region_quiet_tail 6 (by kernel_rfl) (by kernel_rfl) ?_
  simp only [List.take_succ_cons, List.take_zero, List.drop_succ_cons, List.drop_zero]
  repeat (go_big_quiet_step (fail))
  refine wpQuiet_nil ?_
  go_wp2_with fail
  refine (KGD.out 1).mono ?_
  rintro e w2 ⟨rfl, hb2⟩
  have hg2 := hb2.only.row (HG1.out.drewN 1) (fun e => hDG e.symm)
  have hr2 := hb2.only.row (HR1.out.drewN 1) (by omega)
  have e0 : w2.cell? ⟨G, 0, none⟩ = some (.int .u16 (a : Nat)) := hg2.cellv 0 (by omega) _ rfl
  have z0 := hg2.frozen 0
  have e3 : w2.cell? ⟨n0, 0, none⟩ = some (.int .u16 (bs a : Nat)) := hr2.cellv 0 (by omega) _ rfl
  have e4 : w2.cell? ⟨n0, 1, none⟩ = some (.int .u8 (sy a : Nat)) := hr2.cellv 1 (by omega) _ rfl
  have ew : IntKind.u16.wrap ((bs a : Int) + (v : Int)) = ((bs a + v : Nat) : Int) := by rw [IntKind.wrap_u16]; omega
  have HB2 := Lib.hid hb2
  have HG2 := Lib.hid hg2
  have hfin : ∀ wz, wz = w2.setCell ⟨G, 0, none⟩ (.int .u16 (bs a + v : Nat)) → BrIn wz D 98 534 514 A n c l f0 off (rd + bb) wz ∧ RowF wz G 167 3 (dcS D T S (bs a + v)) ∧ Only (fun k => k = D ∨ k = G) w wz := by
    rintro wz rfl
    exact ⟨HB2.out.otherSet (p := ⟨G, 0, none⟩) (Ne.symm hDG) _, (HG2.out.set_ 0 _).congr (dcS_set D T S a (bs a + v)), ((HON1.out.drewN 1).trans (HB2.out.only.mono fun _ h => .inl h)).set_ (p := ⟨G, 0, none⟩) (.inr rfl) _⟩
  have HFIN := Lib.hid hfin
  clear hb2 hg2 hr2 hfin
  go_wp2_with fail
  go_ret
  refine ⟨rfl, HFIN.out _ ?_⟩
  first
    | rfl
    | (rw [ew])
    | (congr 2; omega)
end
end Go.Proofs.YthkklojjpgjiiaaFmt
