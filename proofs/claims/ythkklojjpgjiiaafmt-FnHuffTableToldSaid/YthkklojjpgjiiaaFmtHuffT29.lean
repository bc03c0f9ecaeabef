/-
  fse.buildDtable: the symbols with less than one part are laid. Conditions: those of each.
  fse.buildDtable: the symbols are spread. Conditions: those of each.
-/
import Derived.Test.YthkklojjpgjiiaaFmtHuffT28
namespace Go.Proofs.YthkklojjpgjiiaaFmt
open Go.RowKit Go.Extern.Stop Go.Stop Go.Extern

set_option maxRecDepth 100000 in
set_option maxHeartbeats 6400000 in
theorem dt_l1_5 {w wr : World} {D h m : Nat} {cs : List Int} {f : Nat → Value} (hD : D < h) (hw : w.heap.size ≤ h) (hm : cs.length = m) (hm2 : m ≤ 256) (hl : Least cs) (hs : sumA cs = 32) (hcs : ∀ k, k < m → f (256 + k) = .int .i16 (cs.getD k 0)) (h524 : f 524 = .slice (some ⟨h, 0, none⟩) 32 32)
    (u1 u2 u7 u8 u9 u10 u11 u12 u13 u14 u15 u16 u17 u18 u19 u20 u21 u22 u23 u24 u25 u26 u27 u28 u29 u30 u31 u32 u33 u34 u35 u36 u37 u38 u39 u40 u41 u42 u43 u44 u45 u46 u47 u48 u49 u50 u51 u52 u56 u57 u58 u59 u60 u61 u62 u63 u64 u65 u66 u67 u68 u69 u70 u71 u72 u73 u74 u75 u76 u77 u78 u79 u80 u81 u82 u83 u84 u85 u86 u87 u88 u89 u90 u91 u92 u93 u94 u95 u96 u97 u98 u99 u100 u101 u102 u103 u104 u105 u106 u107 u108 u109 u110 u111 u112 u113 u114 u115 u116 u117 u118 u119 u120 u121 u122 u123 u124 u125 u126 u127 u128 u129 u130 u131 u132 u133 u134 u135 u136 u137 u138 u139 u140 u141 u142 u143 u144 u145 u146 u147 u148 u149 u150 u151 u152 u153 u154 u155 u156 u157 u158 u159 u160 u161 u162 u163 u164 u165 u166 u167 u168 u169 u170 u171 u172 u173 u174 u175 u176 u177 u178 u179 u180 u181 u182 u183 u184 u185 u186 u187 u188 u189 u190 u191 u192 u193 u194 u195 u196 u197 u198 u199 u200 u201 u202 u203 u204 u205 u206 u207 u208 u209 u210 u211 u212 u213 u214 u215 u216 u217 : Value) (Q : Exit → Act → World → Prop) (hW : DtW w D h 32 f false zf zf zf (fun _ => .int .u16 0) wr)
    (hend : ∀ F w', (∃ hi zb v11, DtF D h 32 (.int .u32 (hiV hi)) v11 F ∧ (lowK cs 32 m).1 = hi ∧ (zb = false → ∀ j, j < m → cs.getD j 0 < (2 ^ (5 - 1) : Nat)) ∧ DtW w D h 32 f zb (fun i => cv ((lowK cs 32 m).2 i)) zf zf (nuV cs m) w') → Q (.exit 0) F w') :
    Code.wp Tryf.prog dtL1 Q ⟨#[.pointer (some ⟨D, 0, none⟩), u1, u2, .int .u32 32, .int .u32 31, .slice (some ⟨h + 2, 0, none⟩) 256 256, .int .i16 16, u7, u8, u9, u10, u11, u12, u13, u14, u15, u16, u17, u18, u19, u20, u21, u22, u23, u24, u25, u26, u27, u28, u29, u30, u31, u32, u33, u34, u35, u36, u37, u38, u39, u40, u41, u42, u43, u44, u45, u46, u47, u48, u49, u50, u51, u52, .slice (some ⟨D, 256, none⟩) m 256, .int .i64 (m : Nat), .int .i64 0, u56, u57, u58, u59, u60, u61, u62, u63, u64, u65, u66, u67, u68, u69, u70, u71, u72, u73, u74, u75, u76, u77, u78, u79, u80, u81, u82, u83, u84, u85, u86, u87, u88, u89, u90, u91, u92, u93, u94, u95, u96, u97, u98, u99, u100, u101, u102, u103, u104, u105, u106, u107, u108, u109, u110, u111, u112, u113, u114, u115, u116, u117, u118, u119, u120, u121, u122, u123, u124, u125, u126, u127, u128, u129, u130, u131, u132, u133, u134, u135, u136, u137, u138, u139, u140, u141, u142, u143, u144, u145, u146, u147, u148, u149, u150, u151, u152, u153, u154, u155, u156, u157, u158, u159, u160, u161, u162, u163, u164, u165, u166, u167, u168, u169, u170, u171, u172, u173, u174, u175, u176, u177, u178, u179, u180, u181, u182, u183, u184, u185, u186, u187, u188, u189, u190, u191, u192, u193, u194, u195, u196, u197, u198, u199, u200, u201, u202, u203, u204, u205, u206, u207, u208, u209, u210, u211, u212, u213, u214, u215, u216, u217], []⟩ wr := by
  conv => arg 2; whnf
  have HM := Lib.hid hm
  have HCS := Lib.hid hcs
  have HL := Lib.hid hl
  have HS := Lib.hid hs
  have H524 := Lib.hid h524
  have HWH := Lib.hid hw
  have HW := Lib.hid hW
  have HEND := Lib.hid hend
  clear hm hcs hl hs h524 hw hW hend
  go_wp2_with fail
  go_loopw [4, 55] (DRel1 w D h 32 m 5 cs f) (fun _ iv _ => m - (intOf iv).toNat)
  case atStart =>
    refine ⟨0, 32, false, Nat.zero_le _, rfl, rfl, rfl, fun _ j hj => absurd hj (Nat.not_lt_zero j), ?_⟩
    exact HW.out.cgN (fun k _ => by unfold nuV; rw [if_neg (by omega)]; rfl)
  case round =>
    obtain ⟨k, hi, zb, hk, rfl, rfl, hh, hz, hT⟩ := hrel
    have HT := Lib.hid hT
    have HH := Lib.hid hh
    have HZ := Lib.hid hz
    clear hT hh hz
    by_cases hkm : k < m
    · obtain ⟨ch, hch⟩ : ∃ ch, cs.getD k 0 = ch := ⟨_, rfl⟩
      have hge : -1 ≤ ch := by
        rw [← hch, List.getD_eq_getElem?_getD, List.getElem?_eq_getElem (by rw [HM.out]; exact hkm)]
        exact HL.out _ (List.getElem_mem _)
      have hab := abs_le cs 32 HS.out k (by rw [HM.out]; exact hkm)
      rw [hch] at hab
      have k0 : wr.cell? ⟨D, 256 + k, none⟩ = some (.int .i16 ch) := HT.out.1.cellv (256 + k) (by omega) _ (by rw [updV_ne _ _ _ _ (by omega), HCS.out k hkm, hch])
      have k5 : wr.cell? ⟨D, 524, none⟩ = some (.slice (some ⟨h, 0, none⟩) 32 32) := HT.out.1.cellv 524 (by omega) _ (by rw [updV_ne _ _ _ _ (by omega)]; exact H524.out)
      have c2 : wr.cell? ⟨h + 2, k, none⟩ = some (nuV cs k k) := HT.out.2.2.2.1.cell k (by omega)
      have f2 : wr.frozen? ⟨h + 2, k, none⟩ = false := HT.out.2.2.2.1.frozen k
      have hk256 : (k : Int) < 256 := by omega
      have HCH := Lib.hid hch
      rcases (show ch = -1 ∨ 0 ≤ ch by omega) with rfl | hc0
      · have hp := low_pos cs 32 k HL.out HS.out (by rw [HM.out]; exact hkm) (by rw [hch]; omega)
        rw [HH.out] at hp
        obtain ⟨p, hpe⟩ : ∃ p, hi - 1 = p := ⟨_, rfl⟩
        have ep : hiV hi = (p : Int) := by unfold hiV; rw [if_neg (by omega)]; omega
        rw [ep]
        have hps : p < 32 := by omega
        have hpi : (p : Int) < 32 := by omega
        have f1 : wr.frozen? ⟨h, p * 3 + 1, none⟩ = false := HT.out.2.1.frozen _
        have c1 : wr.cell? ⟨h, p * 3 + 1, none⟩ = some (dcV (fun i => cv ((lowK cs 32 k).2 i)) zf zf (p * 3 + 1)) := HT.out.2.1.cell _ (by omega)
        have e1 : IntKind.u32.wrap ((p : Int) - 1) = hiV p := by
          rw [IntKind.wrap_u32]
          unfold hiV
          split <;> omega
        have HPE := Lib.hid hpe
        have HP := Lib.hid hp
        have E1 := Lib.hid e1
        clear hch hpe hp ep e1
        go_wp2_with fail
        refine ⟨⟨k + 1, p, zb, by omega, congrArg (Value.int .u32) (by have := E1.out; rwa [IntKind.wrap_u32] at this), by go_num, ?_, fun h0 j hj => ?_, ?_⟩, by simp [intOf]; omega⟩
        · show (if cs.getD k 0 < 0 then ((lowK cs 32 k).1 - 1, upd (lowK cs 32 k).2 ((lowK cs 32 k).1 - 1) k) else lowK cs 32 k).1 = p
          rw [if_pos (by rw [HCH.out]; omega), HH.out]
          exact HPE.out
        · rcases Nat.lt_or_ge j k with hj2 | hj2
          · exact HZ.out h0 j hj2
          · rw [show j = k by omega, HCH.out]
            show (-1 : Int) < 16
            omega
        · have hlk : (lowK cs 32 (k + 1)).2 = upd (lowK cs 32 k).2 p k := by
            show (if cs.getD k 0 < 0 then ((lowK cs 32 k).1 - 1, upd (lowK cs 32 k).2 ((lowK cs 32 k).1 - 1) k) else lowK cs 32 k).2 = _
            rw [if_pos (by rw [HCH.out]; omega), HH.out, HPE.out]
          rw [hlk, cv_upd _ _ _ (by omega)]
          have h1 := HT.out.setT hD HWH.out (p * 3 + 1) (.int .u8 (k : Nat)) (dcV_a _ _ _ p k _)
          have h2 := h1.setN hD HWH.out k (.int .u16 (1 : Nat))
          exact h2.cgN (nuV_step cs k 1 (by unfold nxt; rw [HCH.out]; rfl))
      · obtain ⟨n, rfl⟩ : ∃ n : Nat, ch = (n : Int) := ⟨ch.toNat, by omega⟩
        by_cases hbig : (16 : Int) ≤ (n : Int)
        · have d3 : decide ((16 : Int) ≤ (n : Int)) = true := decide_eq_true hbig
          have b1 : ((n : Int) == -1) = false := beq_eq_false_iff_ne.2 (by omega)
          have c30 : wr.cell? ⟨D, 530, none⟩ = some (.bool zb) := HT.out.1.cellv 530 (by omega) _ (updV_same _ _ _)
          have f30 : wr.frozen? ⟨D, 530, none⟩ = false := HT.out.1.frozen _
          have u1 : IntKind.u16.wrap (n : Int) = (n : Int) := by rw [IntKind.wrap_u16]; omega
          clear hch
          go_wp2_with fail
          have hlk : lowK cs 32 (k + 1) = lowK cs 32 k := by
            show (if cs.getD k 0 < 0 then ((lowK cs 32 k).1 - 1, upd (lowK cs 32 k).2 ((lowK cs 32 k).1 - 1) k) else lowK cs 32 k) = _
            rw [if_neg (by rw [HCH.out]; omega)]
          have hnx : nxt cs k = n := by unfold nxt; rw [HCH.out, if_neg (by omega)]; omega
          refine ⟨⟨k + 1, hi, true, by omega, rfl, by go_num, by rw [hlk]; exact HH.out, fun h0 => (by cases h0), ?_⟩, by simp [intOf]; omega⟩
          rw [hlk]
          exact ((HT.out.setZ hD true).setN hD HWH.out k (.int .u16 (n : Nat))).cgN (nuV_step cs k n hnx)
        · have d3 : decide ((16 : Int) ≤ (n : Int)) = false := decide_eq_false hbig
          have b1 : ((n : Int) == -1) = false := beq_eq_false_iff_ne.2 (by omega)
          have u1 : IntKind.u16.wrap (n : Int) = (n : Int) := by rw [IntKind.wrap_u16]; omega
          clear hch
          go_wp2_with fail
          have hlk : lowK cs 32 (k + 1) = lowK cs 32 k := by
            show (if cs.getD k 0 < 0 then ((lowK cs 32 k).1 - 1, upd (lowK cs 32 k).2 ((lowK cs 32 k).1 - 1) k) else lowK cs 32 k) = _
            rw [if_neg (by rw [HCH.out]; omega)]
          have hnx : nxt cs k = n := by unfold nxt; rw [HCH.out, if_neg (by omega)]; omega
          refine ⟨⟨k + 1, hi, zb, by omega, rfl, by go_num, by rw [hlk]; exact HH.out, fun h0 j hj => ?_, ?_⟩, by simp [intOf]; omega⟩
          · rcases Nat.lt_or_ge j k with hj2 | hj2
            · exact HZ.out h0 j hj2
            · rw [show j = k by omega, HCH.out]
              show (n : Int) < 16
              omega
          · rw [hlk]
            exact (HT.out.setN hD HWH.out k (.int .u16 (n : Nat))).cgN (nuV_step cs k n hnx)
    · obtain rfl : m = k := by omega
      go_wp2_with fail
      exact HEND.out _ _ ⟨hi, zb, _, ⟨rfl, rfl, rfl, rfl, rfl, rfl, rfl⟩, HH.out, HZ.out, HT.out⟩
set_option maxRecDepth 100000 in
set_option maxHeartbeats 6400000 in
theorem dt_l1_6 {w wr : World} {D h m : Nat} {cs : List Int} {f : Nat → Value} (hD : D < h) (hw : w.heap.size ≤ h) (hm : cs.length = m) (hm2 : m ≤ 256) (hl : Least cs) (hs : sumA cs = 64) (hcs : ∀ k, k < m → f (256 + k) = .int .i16 (cs.getD k 0)) (h524 : f 524 = .slice (some ⟨h, 0, none⟩) 64 64)
    (u1 u2 u7 u8 u9 u10 u11 u12 u13 u14 u15 u16 u17 u18 u19 u20 u21 u22 u23 u24 u25 u26 u27 u28 u29 u30 u31 u32 u33 u34 u35 u36 u37 u38 u39 u40 u41 u42 u43 u44 u45 u46 u47 u48 u49 u50 u51 u52 u56 u57 u58 u59 u60 u61 u62 u63 u64 u65 u66 u67 u68 u69 u70 u71 u72 u73 u74 u75 u76 u77 u78 u79 u80 u81 u82 u83 u84 u85 u86 u87 u88 u89 u90 u91 u92 u93 u94 u95 u96 u97 u98 u99 u100 u101 u102 u103 u104 u105 u106 u107 u108 u109 u110 u111 u112 u113 u114 u115 u116 u117 u118 u119 u120 u121 u122 u123 u124 u125 u126 u127 u128 u129 u130 u131 u132 u133 u134 u135 u136 u137 u138 u139 u140 u141 u142 u143 u144 u145 u146 u147 u148 u149 u150 u151 u152 u153 u154 u155 u156 u157 u158 u159 u160 u161 u162 u163 u164 u165 u166 u167 u168 u169 u170 u171 u172 u173 u174 u175 u176 u177 u178 u179 u180 u181 u182 u183 u184 u185 u186 u187 u188 u189 u190 u191 u192 u193 u194 u195 u196 u197 u198 u199 u200 u201 u202 u203 u204 u205 u206 u207 u208 u209 u210 u211 u212 u213 u214 u215 u216 u217 : Value) (Q : Exit → Act → World → Prop) (hW : DtW w D h 64 f false zf zf zf (fun _ => .int .u16 0) wr)
    (hend : ∀ F w', (∃ hi zb v11, DtF D h 64 (.int .u32 (hiV hi)) v11 F ∧ (lowK cs 64 m).1 = hi ∧ (zb = false → ∀ j, j < m → cs.getD j 0 < (2 ^ (6 - 1) : Nat)) ∧ DtW w D h 64 f zb (fun i => cv ((lowK cs 64 m).2 i)) zf zf (nuV cs m) w') → Q (.exit 0) F w') :
    Code.wp Tryf.prog dtL1 Q ⟨#[.pointer (some ⟨D, 0, none⟩), u1, u2, .int .u32 64, .int .u32 63, .slice (some ⟨h + 2, 0, none⟩) 256 256, .int .i16 32, u7, u8, u9, u10, u11, u12, u13, u14, u15, u16, u17, u18, u19, u20, u21, u22, u23, u24, u25, u26, u27, u28, u29, u30, u31, u32, u33, u34, u35, u36, u37, u38, u39, u40, u41, u42, u43, u44, u45, u46, u47, u48, u49, u50, u51, u52, .slice (some ⟨D, 256, none⟩) m 256, .int .i64 (m : Nat), .int .i64 0, u56, u57, u58, u59, u60, u61, u62, u63, u64, u65, u66, u67, u68, u69, u70, u71, u72, u73, u74, u75, u76, u77, u78, u79, u80, u81, u82, u83, u84, u85, u86, u87, u88, u89, u90, u91, u92, u93, u94, u95, u96, u97, u98, u99, u100, u101, u102, u103, u104, u105, u106, u107, u108, u109, u110, u111, u112, u113, u114, u115, u116, u117, u118, u119, u120, u121, u122, u123, u124, u125, u126, u127, u128, u129, u130, u131, u132, u133, u134, u135, u136, u137, u138, u139, u140, u141, u142, u143, u144, u145, u146, u147, u148, u149, u150, u151, u152, u153, u154, u155, u156, u157, u158, u159, u160, u161, u162, u163, u164, u165, u166, u167, u168, u169, u170, u171, u172, u173, u174, u175, u176, u177, u178, u179, u180, u181, u182, u183, u184, u185, u186, u187, u188, u189, u190, u191, u192, u193, u194, u195, u196, u197, u198, u199, u200, u201, u202, u203, u204, u205, u206, u207, u208, u209, u210, u211, u212, u213, u214, u215, u216, u217], []⟩ wr := by
  conv => arg 2; whnf
  have HM := Lib.hid hm
  have HCS := Lib.hid hcs
  have HL := Lib.hid hl
  have HS := Lib.hid hs
  have H524 := Lib.hid h524
  have HWH := Lib.hid hw
  have HW := Lib.hid hW
  have HEND := Lib.hid hend
  clear hm hcs hl hs h524 hw hW hend
  go_wp2_with fail
  go_loopw [4, 55] (DRel1 w D h 64 m 6 cs f) (fun _ iv _ => m - (intOf iv).toNat)
  case atStart =>
    refine ⟨0, 64, false, Nat.zero_le _, rfl, rfl, rfl, fun _ j hj => absurd hj (Nat.not_lt_zero j), ?_⟩
    exact HW.out.cgN (fun k _ => by unfold nuV; rw [if_neg (by omega)]; rfl)
  case round =>
    obtain ⟨k, hi, zb, hk, rfl, rfl, hh, hz, hT⟩ := hrel
    have HT := Lib.hid hT
    have HH := Lib.hid hh
    have HZ := Lib.hid hz
    clear hT hh hz
    by_cases hkm : k < m
    · obtain ⟨ch, hch⟩ : ∃ ch, cs.getD k 0 = ch := ⟨_, rfl⟩
      have hge : -1 ≤ ch := by
        rw [← hch, List.getD_eq_getElem?_getD, List.getElem?_eq_getElem (by rw [HM.out]; exact hkm)]
        exact HL.out _ (List.getElem_mem _)
      have hab := abs_le cs 64 HS.out k (by rw [HM.out]; exact hkm)
      rw [hch] at hab
      have k0 : wr.cell? ⟨D, 256 + k, none⟩ = some (.int .i16 ch) := HT.out.1.cellv (256 + k) (by omega) _ (by rw [updV_ne _ _ _ _ (by omega), HCS.out k hkm, hch])
      have k5 : wr.cell? ⟨D, 524, none⟩ = some (.slice (some ⟨h, 0, none⟩) 64 64) := HT.out.1.cellv 524 (by omega) _ (by rw [updV_ne _ _ _ _ (by omega)]; exact H524.out)
      have c2 : wr.cell? ⟨h + 2, k, none⟩ = some (nuV cs k k) := HT.out.2.2.2.1.cell k (by omega)
      have f2 : wr.frozen? ⟨h + 2, k, none⟩ = false := HT.out.2.2.2.1.frozen k
      have hk256 : (k : Int) < 256 := by omega
      have HCH := Lib.hid hch
      rcases (show ch = -1 ∨ 0 ≤ ch by omega) with rfl | hc0
      · have hp := low_pos cs 64 k HL.out HS.out (by rw [HM.out]; exact hkm) (by rw [hch]; omega)
        rw [HH.out] at hp
        obtain ⟨p, hpe⟩ : ∃ p, hi - 1 = p := ⟨_, rfl⟩
        have ep : hiV hi = (p : Int) := by unfold hiV; rw [if_neg (by omega)]; omega
        rw [ep]
        have hps : p < 64 := by omega
        have hpi : (p : Int) < 64 := by omega
        have f1 : wr.frozen? ⟨h, p * 3 + 1, none⟩ = false := HT.out.2.1.frozen _
        have c1 : wr.cell? ⟨h, p * 3 + 1, none⟩ = some (dcV (fun i => cv ((lowK cs 64 k).2 i)) zf zf (p * 3 + 1)) := HT.out.2.1.cell _ (by omega)
        have e1 : IntKind.u32.wrap ((p : Int) - 1) = hiV p := by
          rw [IntKind.wrap_u32]
          unfold hiV
          split <;> omega
        have HPE := Lib.hid hpe
        have HP := Lib.hid hp
        have E1 := Lib.hid e1
        clear hch hpe hp ep e1
        go_wp2_with fail
        refine ⟨⟨k + 1, p, zb, by omega, congrArg (Value.int .u32) (by have := E1.out; rwa [IntKind.wrap_u32] at this), by go_num, ?_, fun h0 j hj => ?_, ?_⟩, by simp [intOf]; omega⟩
        · show (if cs.getD k 0 < 0 then ((lowK cs 64 k).1 - 1, upd (lowK cs 64 k).2 ((lowK cs 64 k).1 - 1) k) else lowK cs 64 k).1 = p
          rw [if_pos (by rw [HCH.out]; omega), HH.out]
          exact HPE.out
        · rcases Nat.lt_or_ge j k with hj2 | hj2
          · exact HZ.out h0 j hj2
          · rw [show j = k by omega, HCH.out]
            show (-1 : Int) < 32
            omega
        · have hlk : (lowK cs 64 (k + 1)).2 = upd (lowK cs 64 k).2 p k := by
            show (if cs.getD k 0 < 0 then ((lowK cs 64 k).1 - 1, upd (lowK cs 64 k).2 ((lowK cs 64 k).1 - 1) k) else lowK cs 64 k).2 = _
            rw [if_pos (by rw [HCH.out]; omega), HH.out, HPE.out]
          rw [hlk, cv_upd _ _ _ (by omega)]
          have h1 := HT.out.setT hD HWH.out (p * 3 + 1) (.int .u8 (k : Nat)) (dcV_a _ _ _ p k _)
          have h2 := h1.setN hD HWH.out k (.int .u16 (1 : Nat))
          exact h2.cgN (nuV_step cs k 1 (by unfold nxt; rw [HCH.out]; rfl))
      · obtain ⟨n, rfl⟩ : ∃ n : Nat, ch = (n : Int) := ⟨ch.toNat, by omega⟩
        by_cases hbig : (32 : Int) ≤ (n : Int)
        · have d3 : decide ((32 : Int) ≤ (n : Int)) = true := decide_eq_true hbig
          have b1 : ((n : Int) == -1) = false := beq_eq_false_iff_ne.2 (by omega)
          have c30 : wr.cell? ⟨D, 530, none⟩ = some (.bool zb) := HT.out.1.cellv 530 (by omega) _ (updV_same _ _ _)
          have f30 : wr.frozen? ⟨D, 530, none⟩ = false := HT.out.1.frozen _
          have u1 : IntKind.u16.wrap (n : Int) = (n : Int) := by rw [IntKind.wrap_u16]; omega
          clear hch
          go_wp2_with fail
          have hlk : lowK cs 64 (k + 1) = lowK cs 64 k := by
            show (if cs.getD k 0 < 0 then ((lowK cs 64 k).1 - 1, upd (lowK cs 64 k).2 ((lowK cs 64 k).1 - 1) k) else lowK cs 64 k) = _
            rw [if_neg (by rw [HCH.out]; omega)]
          have hnx : nxt cs k = n := by unfold nxt; rw [HCH.out, if_neg (by omega)]; omega
          refine ⟨⟨k + 1, hi, true, by omega, rfl, by go_num, by rw [hlk]; exact HH.out, fun h0 => (by cases h0), ?_⟩, by simp [intOf]; omega⟩
          rw [hlk]
          exact ((HT.out.setZ hD true).setN hD HWH.out k (.int .u16 (n : Nat))).cgN (nuV_step cs k n hnx)
        · have d3 : decide ((32 : Int) ≤ (n : Int)) = false := decide_eq_false hbig
          have b1 : ((n : Int) == -1) = false := beq_eq_false_iff_ne.2 (by omega)
          have u1 : IntKind.u16.wrap (n : Int) = (n : Int) := by rw [IntKind.wrap_u16]; omega
          clear hch
          go_wp2_with fail
          have hlk : lowK cs 64 (k + 1) = lowK cs 64 k := by
            show (if cs.getD k 0 < 0 then ((lowK cs 64 k).1 - 1, upd (lowK cs 64 k).2 ((lowK cs 64 k).1 - 1) k) else lowK cs 64 k) = _
            rw [if_neg (by rw [HCH.out]; omega)]
          have hnx : nxt cs k = n := by unfold nxt; rw [HCH.out, if_neg (by omega)]; omega
          refine ⟨⟨k + 1, hi, zb, by omega, rfl, by go_num, by rw [hlk]; exact HH.out, fun h0 j hj => ?_, ?_⟩, by simp [intOf]; omega⟩
          · rcases Nat.lt_or_ge j k with hj2 | hj2
            · exact HZ.out h0 j hj2
            · rw [show j = k by omega, HCH.out]
              show (n : Int) < 32
              omega
          · rw [hlk]
            exact (HT.out.setN hD HWH.out k (.int .u16 (n : Nat))).cgN (nuV_step cs k n hnx)
    · obtain rfl : m = k := by omega
      go_wp2_with fail
      exact HEND.out _ _ ⟨hi, zb, _, ⟨rfl, rfl, rfl, rfl, rfl, rfl, rfl⟩, HH.out, HZ.out, HT.out⟩
end Go.Proofs.YthkklojjpgjiiaaFmt
namespace Go.Proofs.YthkklojjpgjiiaaFmt
open Go.RowKit Go.Extern.Stop Go.Stop Go.Extern

set_option maxRecDepth 100000 in
set_option maxHeartbeats 6400000 in
theorem dt_l2_5 {w wr : World} {D h m hi0 : Nat} {cs : List Int} {f : Nat → Value} {zb : Bool} (hD : D < h) (hw : w.heap.size ≤ h) (hm : cs.length = m) (hm2 : m ≤ 256) (hl : Least cs) (hs : sumA cs = 32) (hcs : ∀ k, k < m → f (256 + k) = .int .i16 (cs.getD k 0)) (h524 : f 524 = .slice (some ⟨h, 0, none⟩) 32 32) (hH : highF cs 32 = hi0)
    (u1 u2 u6 u7 u8 u12 u13 u14 u15 u16 u17 u18 u19 u20 u21 u22 u23 u24 u25 u26 u27 u28 u29 u30 u31 u32 u33 u34 u35 u36 u37 u38 u39 u40 u41 u42 u43 u44 u45 u46 u47 u48 u49 u50 u51 u52 u53 u54 u55 u56 u57 u58 u59 u60 u61 u62 u63 u64 u65 u66 u67 u68 u69 u70 u71 u72 u73 u74 u75 u76 u77 u78 u79 u80 u81 u82 u83 u84 u85 u86 u87 u88 u89 u90 u91 u92 u93 u94 u95 u96 u97 u98 u102 u103 u104 u105 u106 u107 u108 u109 u110 u111 u112 u113 u114 u115 u116 u117 u118 u119 u120 u121 u122 u123 u124 u125 u126 u127 u128 u129 u130 u131 u132 u133 u134 u135 u136 u137 u138 u139 u140 u141 u142 u143 u144 u145 u146 u147 u148 u149 u150 u151 u152 u153 u154 u155 u156 u157 u158 u159 u160 u161 u162 u163 u164 u165 u166 u167 u168 u169 u170 u171 u172 u173 u174 u175 u176 u177 u178 u179 u180 u181 u182 u183 u184 u185 u186 u187 u188 u189 u190 u191 u192 u193 u194 u195 u196 u197 u198 u199 u200 u201 u202 u203 u204 u205 u206 u207 u208 u209 u210 u211 u212 u213 u214 u215 u216 u217 : Value) (Q : Exit → Act → World → Prop) (hW : DtW w D h 32 f zb (fun i => cv ((lowK cs 32 m).2 i)) zf zf (nuV cs m) wr)
    (hend : ∀ F w', (∃ v4, DtF D h 32 v4 (.int .u32 0) F ∧ DtW w D h 32 f zb (fun k => cv (symF cs 32 k)) zf zf (nuV cs m) w') → Q (.exit 2) F w') :
    Code.wp Tryf.prog dtL2 Q ⟨#[.pointer (some ⟨D, 0, none⟩), u1, u2, .int .u32 32, .int .u32 (hiV hi0), .slice (some ⟨h + 2, 0, none⟩) 256 256, u6, u7, u8, .int .u32 31, .int .u32 23, .int .u32 0, u12, u13, u14, u15, u16, u17, u18, u19, u20, u21, u22, u23, u24, u25, u26, u27, u28, u29, u30, u31, u32, u33, u34, u35, u36, u37, u38, u39, u40, u41, u42, u43, u44, u45, u46, u47, u48, u49, u50, u51, u52, u53, u54, u55, u56, u57, u58, u59, u60, u61, u62, u63, u64, u65, u66, u67, u68, u69, u70, u71, u72, u73, u74, u75, u76, u77, u78, u79, u80, u81, u82, u83, u84, u85, u86, u87, u88, u89, u90, u91, u92, u93, u94, u95, u96, u97, u98, .slice (some ⟨D, 256, none⟩) m 256, .int .i64 (m : Nat), .int .i64 0, u102, u103, u104, u105, u106, u107, u108, u109, u110, u111, u112, u113, u114, u115, u116, u117, u118, u119, u120, u121, u122, u123, u124, u125, u126, u127, u128, u129, u130, u131, u132, u133, u134, u135, u136, u137, u138, u139, u140, u141, u142, u143, u144, u145, u146, u147, u148, u149, u150, u151, u152, u153, u154, u155, u156, u157, u158, u159, u160, u161, u162, u163, u164, u165, u166, u167, u168, u169, u170, u171, u172, u173, u174, u175, u176, u177, u178, u179, u180, u181, u182, u183, u184, u185, u186, u187, u188, u189, u190, u191, u192, u193, u194, u195, u196, u197, u198, u199, u200, u201, u202, u203, u204, u205, u206, u207, u208, u209, u210, u211, u212, u213, u214, u215, u216, u217], []⟩ wr := by
  conv => arg 2; whnf
  have hhS : hi0 ≤ 32 := by rw [← hH]; exact high_le cs 32
  have hfl : (flatF cs).length = hi0 := by rw [← hH]; exact (high_eq cs 32 hl hs).symm
  have hW0 : DtW w D h 32 f zb (fun i => cv (layT cs 32 (preK cs 0) i)) zf zf (nuV cs m) wr := by
    rw [← hm] at hW
    rw [← hm]
    exact hW
  have HM := Lib.hid hm
  have HCS := Lib.hid hcs
  have HL := Lib.hid hl
  have HS := Lib.hid hs
  have H524 := Lib.hid h524
  have HWH := Lib.hid hw
  have HW := Lib.hid hW0
  have HEND := Lib.hid hend
  have HHF := Lib.hid hH
  have HFL := Lib.hid hfl
  clear hm hcs hl hs h524 hw hW hW0 hend hH hfl
  go_wp2_with fail
  go_loopw [11, 101] (DRel2 w D h 32 m cs f zb) (fun _ iv _ => m - (intOf iv).toNat)
  case atStart => exact ⟨0, Nat.zero_le _, rfl, rfl, HW.out⟩
  case round =>
    obtain ⟨k, hk, rfl, rfl, hT⟩ := hrel
    have HTk := Lib.hid hT
    clear hT
    by_cases hkm : k < m
    · obtain ⟨ch, hch⟩ : ∃ ch, cs.getD k 0 = ch := ⟨_, rfl⟩
      have k0 : wr.cell? ⟨D, 256 + k, none⟩ = some (.int .i16 ch) := HTk.out.1.cellv (256 + k) (by omega) _ (by rw [updV_ne _ _ _ _ (by omega), HCS.out k hkm, hch])
      have HCH := Lib.hid hch
      have hab := abs_le cs 32 HS.out k (by rw [HM.out]; exact hkm)
      rw [hch] at hab
      rcases (show ch ≤ 0 ∨ 0 < ch by omega) with hc0 | hc0
      · have hpk : preK cs (k + 1) = preK cs k := by rw [preK_succ, hch]; omega
        have HPK := Lib.hid hpk
        have hd : decide (0 < ch) = false := decide_eq_false (by omega)
        clear hch hpk
        go_wp2_with fail
        refine wp_loop_rounds 1 ?_
        rw [rounds_succ]
        go_wp2_with fail
        refine ⟨⟨k + 1, by omega, by rw [HPK.out], by go_num, by rw [HPK.out]; exact HTk.out⟩, ?_⟩
        simp [intOf]; omega
      · obtain ⟨n, hn⟩ : ∃ n : Nat, ch = (n : Int) := ⟨ch.toNat, by omega⟩
        subst hn
        have hnS : n ≤ 32 := by omega
        have hpk : preK cs (k + 1) = preK cs k + n := by rw [preK_succ, hch]; omega
        have HPK := Lib.hid hpk
        clear hch hpk
        go_wp2_with fail
        obtain ⟨w2, rfl⟩ : ∃ w2 : World, w2 = wr := ⟨_, rfl⟩
        go_loopw [11, 14] (DRel3 w D h 32 m cs f zb k n) (fun _ jv _ => n - (intOf jv).toNat)
        case atStart => exact ⟨0, Nat.zero_le _, rfl, rfl, HTk.out⟩
        case round =>
          obtain ⟨j, hj, rfl, rfl, hT⟩ := hrel
          have HTj := Lib.hid hT
          clear hT
          by_cases hjn : j < n
          · have hfg := flat_get cs k j (by rw [HM.out]; exact hkm) (by rw [HCH.out]; omega)
            obtain ⟨T, hTe⟩ : ∃ T, preK cs k + j = T := ⟨_, rfl⟩
            rw [hTe, HFL.out] at hfg
            have hT1 := HTj.out
            rw [hTe] at hT1
            have HT1 := Lib.hid hT1
            obtain ⟨a, ha⟩ : ∃ a, orb 32 (highF cs 32) T = a := ⟨_, rfl⟩
            have hah : a < hi0 := by rw [← ha, HHF.out]; exact orb_lt 32 hi0 (by omega) (by omega) hhS T hfg.2
            have f2 : wr.frozen? ⟨h, a * 3 + 1, none⟩ = false := HT1.out.2.1.frozen _
            have c2 : wr.cell? ⟨h, a * 3 + 1, none⟩ = some (dcV (fun i => cv (layT cs 32 T i)) zf zf (a * 3 + 1)) := HT1.out.2.1.cell _ (by omega)
            have k5 : wr.cell? ⟨D, 524, none⟩ = some (.slice (some ⟨h, 0, none⟩) 32 32) := HT1.out.1.cellv 524 (by omega) _ (by rw [updV_ne _ _ _ _ (by omega)]; exact H524.out)
            have haS : a < 32 := by omega
            have haSi : (a : Int) < 32 := by omega
            have hki : (k : Int) < 256 := by omega
            have HA := Lib.hid ha
            have HFG := Lib.hid hfg
            have HTE := Lib.hid hTe
            rw [hTe, ha]
            obtain ⟨y, hy⟩ : ∃ y, (a + 23) % 2 ^ 5 = y := ⟨_, rfl⟩
            have e4 := and_u32 (a + 23) 5 (by omega) (by omega) 31 (by decide)
            rw [hy, show ((a + 23 : Nat) : Int) = (a : Int) + 23 by omega] at e4
            have HY := Lib.hid hy
            clear hT1 ha hfg hTe hy
            go_wp2_with fail
            have hys : (a + stepOf 32) % 32 = y := HY.out
            have hnx : nextAt 32 hi0 a = orb 32 hi0 (T + 1) := by show nextAt 32 hi0 a = nextAt 32 hi0 (orb 32 hi0 T); rw [← HHF.out, HA.out]
            have hlt1 : nextAt 32 hi0 a < hi0 := by rw [hnx]; exact orb_le 32 hi0 (by omega) (by omega) hhS (T + 1) (by have := HFG.out.2; omega)
            have HYS := Lib.hid hys
            have HNX := Lib.hid hnx
            have HLT1 := Lib.hid hlt1
            have hTn := HT1.out.setT hD HWH.out (a * 3 + 1) (.int .u8 (k : Nat)) (dcV_a _ _ _ a k _)
            have HTN := Lib.hid hTn
            clear e4 hys hnx hlt1 hTn
            go_loop [11] (RelU 32 hi0 (nextAt 32 hi0 a)) (fun av => farOf 32 hi0 (intOf av).toNat)
            case atStart =>
              have h4 := relU_start 32 hi0 a (by omega)
              rwa [HYS.out] at h4
            case round =>
              obtain ⟨b, fu, rfl, hbS, he⟩ := hrel
              have HEQ := Lib.hid he
              clear he
              by_cases hbh : b < hi0
              · have hbe : b = nextAt 32 hi0 a := by have := HEQ.out; rwa [if_pos hbh] at this
                have HBE := Lib.hid hbe
                have hd : decide (hiV hi0 < (b : Int)) = false := decide_eq_false (by unfold hiV; split <;> omega)
                clear hbe
                go_wp2_with fail
                refine ⟨⟨j + 1, by omega, ?_, by go_num, ?_⟩, ?_⟩
                · rw [show preK cs k + (j + 1) = T + 1 by have := HTE.out; omega, HHF.out, ← HNX.out, ← HBE.out]
                · rw [show preK cs k + (j + 1) = T + 1 by have := HTE.out; omega]
                  have hl : layT cs 32 (T + 1) = upd (layT cs 32 T) a k := by
                    show upd (layT cs 32 T) (orb 32 (highF cs 32) T) ((flatF cs).getD T 0) = _
                    rw [HA.out, HFG.out.1]
                  rw [hl, cv_upd _ _ _ (by omega)]
                  exact HTN.out
                · simp [intOf]; omega
              · obtain ⟨z, hz⟩ : ∃ z, (b + 23) % 2 ^ 5 = z := ⟨_, rfl⟩
                have e5 := and_u32 (b + 23) 5 (by omega) (by omega) 31 (by decide)
                rw [hz, show ((b + 23 : Nat) : Int) = (b : Int) + 23 by omega] at e5
                have h4 := relU_step 32 hi0 (nextAt 32 hi0 a) b fu (by omega) (by omega) HLT1.out HEQ.out
                have h5 := far_less 32 hi0 b (by omega) (by omega) hbS (by omega)
                rw [show (b + stepOf 32) % 32 = z from hz] at h4 h5
                have hd : decide (hiV hi0 < (b : Int)) = true := decide_eq_true (by unfold hiV; split <;> omega)
                have H4 := Lib.hid h4
                have H5 := Lib.hid h5
                clear hz h4 h5
                go_wp2_with fail
                refine ⟨H4.out, ?_⟩
                simp only [intOf, Int.toNat_natCast]
                exact H5.out
          · obtain rfl : n = j := by omega
            go_wp2_with fail
            refine ⟨⟨k + 1, by omega, by rw [HPK.out], by go_num, by rw [HPK.out]; exact HTj.out⟩, ?_⟩
            simp [intOf]; omega
    · obtain rfl : m = k := by omega
      have e : preK cs m = (flatF cs).length := by unfold flatF preK; rw [HM.out]
      have e0 : orb 32 (highF cs 32) (preK cs m) = 0 := by
        rw [e, HFL.out, HHF.out]
        rcases Nat.eq_zero_or_pos hi0 with h0 | h0
        · rw [h0]; rfl
        · exact orb_end 32 hi0 (by omega) h0 hhS
      have hTs : DtW w D h 32 f zb (fun k => cv (symF cs 32 k)) zf zf (nuV cs m) wr := by
        have h := HTk.out
        rw [e] at h
        exact h
      rw [e0]
      have HTS := Lib.hid hTs
      clear e e0 hTs
      go_wp2_with fail
      exact HEND.out _ _ ⟨_, ⟨rfl, rfl, rfl, rfl, rfl, rfl, rfl⟩, HTS.out⟩
set_option maxRecDepth 100000 in
set_option maxHeartbeats 6400000 in
theorem dt_l2_6 {w wr : World} {D h m hi0 : Nat} {cs : List Int} {f : Nat → Value} {zb : Bool} (hD : D < h) (hw : w.heap.size ≤ h) (hm : cs.length = m) (hm2 : m ≤ 256) (hl : Least cs) (hs : sumA cs = 64) (hcs : ∀ k, k < m → f (256 + k) = .int .i16 (cs.getD k 0)) (h524 : f 524 = .slice (some ⟨h, 0, none⟩) 64 64) (hH : highF cs 64 = hi0)
    (u1 u2 u6 u7 u8 u12 u13 u14 u15 u16 u17 u18 u19 u20 u21 u22 u23 u24 u25 u26 u27 u28 u29 u30 u31 u32 u33 u34 u35 u36 u37 u38 u39 u40 u41 u42 u43 u44 u45 u46 u47 u48 u49 u50 u51 u52 u53 u54 u55 u56 u57 u58 u59 u60 u61 u62 u63 u64 u65 u66 u67 u68 u69 u70 u71 u72 u73 u74 u75 u76 u77 u78 u79 u80 u81 u82 u83 u84 u85 u86 u87 u88 u89 u90 u91 u92 u93 u94 u95 u96 u97 u98 u102 u103 u104 u105 u106 u107 u108 u109 u110 u111 u112 u113 u114 u115 u116 u117 u118 u119 u120 u121 u122 u123 u124 u125 u126 u127 u128 u129 u130 u131 u132 u133 u134 u135 u136 u137 u138 u139 u140 u141 u142 u143 u144 u145 u146 u147 u148 u149 u150 u151 u152 u153 u154 u155 u156 u157 u158 u159 u160 u161 u162 u163 u164 u165 u166 u167 u168 u169 u170 u171 u172 u173 u174 u175 u176 u177 u178 u179 u180 u181 u182 u183 u184 u185 u186 u187 u188 u189 u190 u191 u192 u193 u194 u195 u196 u197 u198 u199 u200 u201 u202 u203 u204 u205 u206 u207 u208 u209 u210 u211 u212 u213 u214 u215 u216 u217 : Value) (Q : Exit → Act → World → Prop) (hW : DtW w D h 64 f zb (fun i => cv ((lowK cs 64 m).2 i)) zf zf (nuV cs m) wr)
    (hend : ∀ F w', (∃ v4, DtF D h 64 v4 (.int .u32 0) F ∧ DtW w D h 64 f zb (fun k => cv (symF cs 64 k)) zf zf (nuV cs m) w') → Q (.exit 2) F w') :
    Code.wp Tryf.prog dtL2 Q ⟨#[.pointer (some ⟨D, 0, none⟩), u1, u2, .int .u32 64, .int .u32 (hiV hi0), .slice (some ⟨h + 2, 0, none⟩) 256 256, u6, u7, u8, .int .u32 63, .int .u32 43, .int .u32 0, u12, u13, u14, u15, u16, u17, u18, u19, u20, u21, u22, u23, u24, u25, u26, u27, u28, u29, u30, u31, u32, u33, u34, u35, u36, u37, u38, u39, u40, u41, u42, u43, u44, u45, u46, u47, u48, u49, u50, u51, u52, u53, u54, u55, u56, u57, u58, u59, u60, u61, u62, u63, u64, u65, u66, u67, u68, u69, u70, u71, u72, u73, u74, u75, u76, u77, u78, u79, u80, u81, u82, u83, u84, u85, u86, u87, u88, u89, u90, u91, u92, u93, u94, u95, u96, u97, u98, .slice (some ⟨D, 256, none⟩) m 256, .int .i64 (m : Nat), .int .i64 0, u102, u103, u104, u105, u106, u107, u108, u109, u110, u111, u112, u113, u114, u115, u116, u117, u118, u119, u120, u121, u122, u123, u124, u125, u126, u127, u128, u129, u130, u131, u132, u133, u134, u135, u136, u137, u138, u139, u140, u141, u142, u143, u144, u145, u146, u147, u148, u149, u150, u151, u152, u153, u154, u155, u156, u157, u158, u159, u160, u161, u162, u163, u164, u165, u166, u167, u168, u169, u170, u171, u172, u173, u174, u175, u176, u177, u178, u179, u180, u181, u182, u183, u184, u185, u186, u187, u188, u189, u190, u191, u192, u193, u194, u195, u196, u197, u198, u199, u200, u201, u202, u203, u204, u205, u206, u207, u208, u209, u210, u211, u212, u213, u214, u215, u216, u217], []⟩ wr := by
  conv => arg 2; whnf
  have hhS : hi0 ≤ 64 := by rw [← hH]; exact high_le cs 64
  have hfl : (flatF cs).length = hi0 := by rw [← hH]; exact (high_eq cs 64 hl hs).symm
  have hW0 : DtW w D h 64 f zb (fun i => cv (layT cs 64 (preK cs 0) i)) zf zf (nuV cs m) wr := by
    rw [← hm] at hW
    rw [← hm]
    exact hW
  have HM := Lib.hid hm
  have HCS := Lib.hid hcs
  have HL := Lib.hid hl
  have HS := Lib.hid hs
  have H524 := Lib.hid h524
  have HWH := Lib.hid hw
  have HW := Lib.hid hW0
  have HEND := Lib.hid hend
  have HHF := Lib.hid hH
  have HFL := Lib.hid hfl
  clear hm hcs hl hs h524 hw hW hW0 hend hH hfl
  go_wp2_with fail
  go_loopw [11, 101] (DRel2 w D h 64 m cs f zb) (fun _ iv _ => m - (intOf iv).toNat)
  case atStart => exact ⟨0, Nat.zero_le _, rfl, rfl, HW.out⟩
  case round =>
    obtain ⟨k, hk, rfl, rfl, hT⟩ := hrel
    have HTk := Lib.hid hT
    clear hT
    by_cases hkm : k < m
    · obtain ⟨ch, hch⟩ : ∃ ch, cs.getD k 0 = ch := ⟨_, rfl⟩
      have k0 : wr.cell? ⟨D, 256 + k, none⟩ = some (.int .i16 ch) := HTk.out.1.cellv (256 + k) (by omega) _ (by rw [updV_ne _ _ _ _ (by omega), HCS.out k hkm, hch])
      have HCH := Lib.hid hch
      have hab := abs_le cs 64 HS.out k (by rw [HM.out]; exact hkm)
      rw [hch] at hab
      rcases (show ch ≤ 0 ∨ 0 < ch by omega) with hc0 | hc0
      · have hpk : preK cs (k + 1) = preK cs k := by rw [preK_succ, hch]; omega
        have HPK := Lib.hid hpk
        have hd : decide (0 < ch) = false := decide_eq_false (by omega)
        clear hch hpk
        go_wp2_with fail
        refine wp_loop_rounds 1 ?_
        rw [rounds_succ]
        go_wp2_with fail
        refine ⟨⟨k + 1, by omega, by rw [HPK.out], by go_num, by rw [HPK.out]; exact HTk.out⟩, ?_⟩
        simp [intOf]; omega
      · obtain ⟨n, hn⟩ : ∃ n : Nat, ch = (n : Int) := ⟨ch.toNat, by omega⟩
        subst hn
        have hnS : n ≤ 64 := by omega
        have hpk : preK cs (k + 1) = preK cs k + n := by rw [preK_succ, hch]; omega
        have HPK := Lib.hid hpk
        clear hch hpk
        go_wp2_with fail
        obtain ⟨w2, rfl⟩ : ∃ w2 : World, w2 = wr := ⟨_, rfl⟩
        go_loopw [11, 14] (DRel3 w D h 64 m cs f zb k n) (fun _ jv _ => n - (intOf jv).toNat)
        case atStart => exact ⟨0, Nat.zero_le _, rfl, rfl, HTk.out⟩
        case round =>
          obtain ⟨j, hj, rfl, rfl, hT⟩ := hrel
          have HTj := Lib.hid hT
          clear hT
          by_cases hjn : j < n
          · have hfg := flat_get cs k j (by rw [HM.out]; exact hkm) (by rw [HCH.out]; omega)
            obtain ⟨T, hTe⟩ : ∃ T, preK cs k + j = T := ⟨_, rfl⟩
            rw [hTe, HFL.out] at hfg
            have hT1 := HTj.out
            rw [hTe] at hT1
            have HT1 := Lib.hid hT1
            obtain ⟨a, ha⟩ : ∃ a, orb 64 (highF cs 64) T = a := ⟨_, rfl⟩
            have hah : a < hi0 := by rw [← ha, HHF.out]; exact orb_lt 64 hi0 (by omega) (by omega) hhS T hfg.2
            have f2 : wr.frozen? ⟨h, a * 3 + 1, none⟩ = false := HT1.out.2.1.frozen _
            have c2 : wr.cell? ⟨h, a * 3 + 1, none⟩ = some (dcV (fun i => cv (layT cs 64 T i)) zf zf (a * 3 + 1)) := HT1.out.2.1.cell _ (by omega)
            have k5 : wr.cell? ⟨D, 524, none⟩ = some (.slice (some ⟨h, 0, none⟩) 64 64) := HT1.out.1.cellv 524 (by omega) _ (by rw [updV_ne _ _ _ _ (by omega)]; exact H524.out)
            have haS : a < 64 := by omega
            have haSi : (a : Int) < 64 := by omega
            have hki : (k : Int) < 256 := by omega
            have HA := Lib.hid ha
            have HFG := Lib.hid hfg
            have HTE := Lib.hid hTe
            rw [hTe, ha]
            obtain ⟨y, hy⟩ : ∃ y, (a + 43) % 2 ^ 6 = y := ⟨_, rfl⟩
            have e4 := and_u32 (a + 43) 6 (by omega) (by omega) 63 (by decide)
            rw [hy, show ((a + 43 : Nat) : Int) = (a : Int) + 43 by omega] at e4
            have HY := Lib.hid hy
            clear hT1 ha hfg hTe hy
            go_wp2_with fail
            have hys : (a + stepOf 64) % 64 = y := HY.out
            have hnx : nextAt 64 hi0 a = orb 64 hi0 (T + 1) := by show nextAt 64 hi0 a = nextAt 64 hi0 (orb 64 hi0 T); rw [← HHF.out, HA.out]
            have hlt1 : nextAt 64 hi0 a < hi0 := by rw [hnx]; exact orb_le 64 hi0 (by omega) (by omega) hhS (T + 1) (by have := HFG.out.2; omega)
            have HYS := Lib.hid hys
            have HNX := Lib.hid hnx
            have HLT1 := Lib.hid hlt1
            have hTn := HT1.out.setT hD HWH.out (a * 3 + 1) (.int .u8 (k : Nat)) (dcV_a _ _ _ a k _)
            have HTN := Lib.hid hTn
            clear e4 hys hnx hlt1 hTn
            go_loop [11] (RelU 64 hi0 (nextAt 64 hi0 a)) (fun av => farOf 64 hi0 (intOf av).toNat)
            case atStart =>
              have h4 := relU_start 64 hi0 a (by omega)
              rwa [HYS.out] at h4
            case round =>
              obtain ⟨b, fu, rfl, hbS, he⟩ := hrel
              have HEQ := Lib.hid he
              clear he
              by_cases hbh : b < hi0
              · have hbe : b = nextAt 64 hi0 a := by have := HEQ.out; rwa [if_pos hbh] at this
                have HBE := Lib.hid hbe
                have hd : decide (hiV hi0 < (b : Int)) = false := decide_eq_false (by unfold hiV; split <;> omega)
                clear hbe
                go_wp2_with fail
                refine ⟨⟨j + 1, by omega, ?_, by go_num, ?_⟩, ?_⟩
                · rw [show preK cs k + (j + 1) = T + 1 by have := HTE.out; omega, HHF.out, ← HNX.out, ← HBE.out]
                · rw [show preK cs k + (j + 1) = T + 1 by have := HTE.out; omega]
                  have hl : layT cs 64 (T + 1) = upd (layT cs 64 T) a k := by
                    show upd (layT cs 64 T) (orb 64 (highF cs 64) T) ((flatF cs).getD T 0) = _
                    rw [HA.out, HFG.out.1]
                  rw [hl, cv_upd _ _ _ (by omega)]
                  exact HTN.out
                · simp [intOf]; omega
              · obtain ⟨z, hz⟩ : ∃ z, (b + 43) % 2 ^ 6 = z := ⟨_, rfl⟩
                have e5 := and_u32 (b + 43) 6 (by omega) (by omega) 63 (by decide)
                rw [hz, show ((b + 43 : Nat) : Int) = (b : Int) + 43 by omega] at e5
                have h4 := relU_step 64 hi0 (nextAt 64 hi0 a) b fu (by omega) (by omega) HLT1.out HEQ.out
                have h5 := far_less 64 hi0 b (by omega) (by omega) hbS (by omega)
                rw [show (b + stepOf 64) % 64 = z from hz] at h4 h5
                have hd : decide (hiV hi0 < (b : Int)) = true := decide_eq_true (by unfold hiV; split <;> omega)
                have H4 := Lib.hid h4
                have H5 := Lib.hid h5
                clear hz h4 h5
                go_wp2_with fail
                refine ⟨H4.out, ?_⟩
                simp only [intOf, Int.toNat_natCast]
                exact H5.out
          · obtain rfl : n = j := by omega
            go_wp2_with fail
            refine ⟨⟨k + 1, by omega, by rw [HPK.out], by go_num, by rw [HPK.out]; exact HTj.out⟩, ?_⟩
            simp [intOf]; omega
    · obtain rfl : m = k := by omega
      have e : preK cs m = (flatF cs).length := by unfold flatF preK; rw [HM.out]
      have e0 : orb 64 (highF cs 64) (preK cs m) = 0 := by
        rw [e, HFL.out, HHF.out]
        rcases Nat.eq_zero_or_pos hi0 with h0 | h0
        · rw [h0]; rfl
        · exact orb_end 64 hi0 (by omega) h0 hhS
      have hTs : DtW w D h 64 f zb (fun k => cv (symF cs 64 k)) zf zf (nuV cs m) wr := by
        have h := HTk.out
        rw [e] at h
        exact h
      rw [e0]
      have HTS := Lib.hid hTs
      clear e e0 hTs
      go_wp2_with fail
      exact HEND.out _ _ ⟨_, ⟨rfl, rfl, rfl, rfl, rfl, rfl, rfl⟩, HTS.out⟩
end Go.Proofs.YthkklojjpgjiiaaFmt
