/-
  huff0's setMaxHeight: from the table of last positions on. Conditions: those of the theorem.
-/
import Derived.Test.YthkklojjpgjiiaaFmtCodeT26
import Derived.Test.YthkklojjpgjiiaaFmtCodeT27
namespace Go.Proofs.YthkklojjpgjiiaaFmt
open Go.RowKit

set_option maxRecDepth 100000 in
set_option maxHeartbeats 6400000 in
theorem mh_w2 {w wr : World} {H G n M T i x : Nat} {f : Nat → Value} {z c pa sy l : Nat → Nat} (hB : NdB n c pa sy) (hn : n ≤ 256) (hM : 5 ≤ M) (hM2 : M ≤ 11) (hHG : H ≠ G) (hn2 : n ≤ 2 ^ M) (hok : LenOk n M l) (hkr : kr M l n = 2 ^ M + T) (hz : T < zr M l n) (_hT1 : 1 ≤ T) (hi : i < n) (hal : ∀ j, i < j → j < n → l j = M) (hxl : x < M) (hx : l i = x)
    (hH : RowF wr H 58 540 f) (hG : RowF wr G 110 513 (ndV (NV z n c pa sy l))) (hOn : Only (fun k => k = G) w wr) (Q : Exit → Act → World → Prop)
    (u0 u1 u2 u3 u4 u7 u9 u11 u12 u13 u14 u15 u16 u17 u18 u19 u20 u21 u22 u23 u24 u25 u26 u27 u28 u29 u30 u31 u32 u33 u34 u35 u36 u37 u38 u39 u40 u41 u42 u43 u44 u45 u46 u47 u48 u49 u50 u51 u52 u53 u54 u55 u56 u57 u58 u59 u60 u61 u62 u63 u64 u65 u66 u67 u68 u69 u70 u71 u72 u73 u74 u75 u76 u77 u78 u79 u80 u81 u82 u83 u84 u85 u86 u87 u88 u89 u90 u91 u92 u93 u94 u95 u96 u97 u98 u99 u100 u101 u102 u103 u104 u105 u106 u107 u108 u109 u110 u111 u112 u113 u114 u115 u116 u117 u118 u119 u120 u121 u122 u123 u124 u125 u126 u127 u128 u129 u130 u131 u132 u133 u134 u135 u136 u137 u138 u139 u140 u141 u142 u143 u144 u145 u146 u147 u148 u149 u150 u151 u152 u153 u154 u155 u156 u157 u158 u159 u160 u161 u162 u163 u164 u165 u166 u167 u168 u169 u170 u171 u172 u173 u174 u175 u176 u177 u178 u179 u180 u181 u182 u183 u184 u185 u186 u187 u188 u189 u190 u191 u192 u193 u194 u195 u196 u197 u198 u199 u200 u201 u202 u203 u204 u205 u206 u207 u208 u209 u210 u211 u212 u213 u214 u215 u216 u217 u218 u219 u220 u221 u222 u223 u224 u225 u226 u227 u228 u229 u230 u231 u232 u233 u234 u235 u236 u237 u238 u239 u240 u241 u242 u243 u244 u245 u246 u247 u248 u249 u250 u251 u252 u253 u254 u255 : Value)
    (hend : ∀ F w', MhR (.int .u8 (M : Nat)) F ∧ (∃ l', LenOk n M l' ∧ ∃ R r, MhW w H G R f (ndV (NV z n c pa sy l')) (rkV r) w') → Q .ret F w') :
    Code.wp Tryf.prog mhW2 Q ⟨#[u0, u1, u2, u3, u4, .int .u8 (M : Nat), .slice (some ⟨G, 1, none⟩) 512 512, u7, .int .i64 (T : Nat), u9, .int .u32 (i : Nat), u11, u12, u13, u14, u15, u16, u17, u18, u19, u20, u21, u22, u23, u24, u25, u26, u27, u28, u29, u30, u31, u32, u33, u34, u35, u36, u37, u38, u39, u40, u41, u42, u43, u44, u45, u46, u47, u48, u49, u50, u51, u52, u53, u54, u55, u56, u57, u58, u59, u60, u61, u62, u63, u64, u65, u66, u67, u68, u69, u70, u71, u72, u73, u74, u75, u76, u77, u78, u79, u80, u81, u82, u83, u84, u85, u86, u87, u88, u89, u90, u91, u92, u93, u94, u95, u96, u97, u98, u99, u100, u101, u102, u103, u104, u105, u106, u107, u108, u109, u110, u111, u112, u113, u114, u115, u116, u117, u118, u119, u120, u121, u122, u123, u124, u125, u126, u127, u128, u129, u130, u131, u132, u133, u134, u135, u136, u137, u138, u139, u140, u141, u142, u143, u144, u145, u146, u147, u148, u149, u150, u151, u152, u153, u154, u155, u156, u157, u158, u159, u160, u161, u162, u163, u164, u165, u166, u167, u168, u169, u170, u171, u172, u173, u174, u175, u176, u177, u178, u179, u180, u181, u182, u183, u184, u185, u186, u187, u188, u189, u190, u191, u192, u193, u194, u195, u196, u197, u198, u199, u200, u201, u202, u203, u204, u205, u206, u207, u208, u209, u210, u211, u212, u213, u214, u215, u216, u217, u218, u219, u220, u221, u222, u223, u224, u225, u226, u227, u228, u229, u230, u231, u232, u233, u234, u235, u236, u237, u238, u239, u240, u241, u242, u243, u244, u245, u246, u247, u248, u249, u250, u251, u252, u253, u254, u255], []⟩ wr := by
  conv => arg 2; whnf
  have hlm : ∀ j, j ≤ i → j < n → l j < M := fun j h1 h2 => by
    have := hok.1 j i h1 hi
    omega
  have lH := hH.lt
  have lG := hG.lt
  have hsz := hOn.size
  have HB := Lib.hid hB
  have HOK := Lib.hid hok
  have HKR := Lib.hid hkr
  have HZ := Lib.hid hz
  have HAL := Lib.hid hal
  have HLM := Lib.hid hlm
  have HN2 := Lib.hid hn2
  have HHG := Lib.hid hHG
  have HH := Lib.hid hH
  have HG := Lib.hid hG
  have HON := Lib.hid hOn
  have HEND := Lib.hid hend
  obtain ⟨R, hR⟩ : ∃ R, wr.heap.size = R := ⟨_, rfl⟩
  rw [hR] at lH lG hsz
  have HR := Lib.hid hR
  have HSZ := Lib.hid hsz
  clear hB hok hkr hz hal hlm hn2 hHG hH hG hOn hend hx hR hsz
  go_upto_region 17 with fail
  rename_i K0 a0 Ka aa Kb ab
  have HA0 := Lib.hid a0
  generalize hw1 : World.alloc _ _ = w1
  have hRr := RowF.newRep _ _ _ _ hw1 (show _ = Array.replicate 13 (.int .u32 0) from rfl)
  have hW1 : MhW w H G R f (ndV (NV z n c pa sy l)) (rk0 0) w1 := by
    refine ⟨?_, ?_, ?_, ?_⟩
    · rw [← hw1]; exact HH.out.alloc _
    · rw [← hw1]; exact HG.out.alloc _
    · rw [HR.out] at hRr
      exact hRr.congr fun k _ => by unfold rk0; rw [if_neg (by omega)]; rfl
    · rw [← hw1]
      exact (HON.out.mono fun k h => .inl h).alloc _
  have hrr := HR.out
  rw [hrr]
  have HW := Lib.hid hW1
  clear hW1 hRr hw1 hrr
  go_wp2_with fail
  go_loopw [82] (fun iv wr => ∃ (i : Nat), i ≤ 13 ∧ iv = .int .i64 (i : Nat) ∧ MhW w H G R f (ndV (NV z n c pa sy l)) (rk0 i) wr) (fun iv _ => 13 - (intOf iv).toNat)
  case atStart => exact ⟨0, Nat.zero_le _, rfl, HW.out⟩
  case round =>
    clear HW
    obtain ⟨k, hk, rfl, hwr⟩ := hrel
    have HWR := Lib.hid hwr
    clear hwr
    by_cases hin : (k : Int) < 13
    · have hd0 : decide ((k : Int) < 13) = true := decide_eq_true hin
      have k2 := HWR.out.r.cell k (by omega)
      have z1 := HWR.out.r.frozen k
      have hst := HWR.out.setR HSZ.out lH lG k (.int .u32 4042322160) (rv' := rk0 (k + 1)) fun j _ => by
        unfold updV rk0
        by_cases e : j = k
        · rw [if_pos e, if_pos (by omega)]; rfl
        · rw [if_neg e]
          by_cases e2 : j < k
          · rw [if_pos e2, if_pos (by omega)]
          · rw [if_neg e2, if_neg (by omega)]
      have HST := Lib.hid hst
      clear hst
      go_wp2_with fail
      refine ⟨⟨k + 1, by omega, by go_num, HST.out⟩, by simp [intOf]; omega⟩
    · obtain rfl : k = 13 := by omega
      have HW2 := Lib.hid (HWR.out.cgR (rv' := rkV fun _ => none) fun j hj => by unfold rk0 rkV; rw [if_pos (by omega)]; rfl)
      clear HWR
      go_wp2_with fail
      go_loopw [13, 14] (fun cv pv wr => ∃ (q cur : Nat) (y : Int) (r : Nat → Option Nat), cv = .int .u8 (cur : Nat) ∧ pv = .int .i64 y ∧ y = (q : Int) - 1 ∧ q ≤ i + 1 ∧ LastFrom n M l q cur r ∧ MhW w H G R f (ndV (NV z n c pa sy l)) (rkV r) wr) (fun _ pv _ => (intOf pv + 1).toNat)
      case atStart => exact ⟨i + 1, M, i, fun _ => none, rfl, rfl, by omega, Nat.le_refl _, LastFrom.start ⟨hi, HAL.out⟩, HW2.out⟩
      case round =>
        clear HW2
        obtain ⟨q, cur, y, r, rfl, rfl, hy, hq, hLF, hwr⟩ := hrel
        have HWR := Lib.hid hwr
        have HLF := Lib.hid hLF
        clear hwr hLF
        by_cases hq0 : q = 0
        · subst hq0
          obtain rfl : y = -1 := by omega
          have hP : PayI n M T i l r := ⟨HOK.out, HKR.out, HZ.out, HLF.out.all, ⟨hi, HAL.out⟩, fun p hp => by rw [HLF.out.r0] at hp; cases hp⟩
          have HP := Lib.hid hP
          clear hP hy
          go_wp2_with fail
          rename_i K1 a1
          have HA := Lib.hid a1
          clear a1
          refine mh_l8 HB.out hn hM hM2 lG lH HHG.out HSZ.out HN2.out _ _ (v8 := .int .i64 (T : Nat)) ⟨rfl, rfl, rfl, rfl, rfl, rfl, rfl⟩ (.inl ⟨T, l, r, rfl, HP.out, HWR.out⟩) ?_
          rintro F' w' ⟨y, E, i2, l2, r2, hF', hy, hi2, hO2, hW2⟩
          refine HA.out _ _ ?_
          rw [mh_frame hF']
          have HY := Lib.hid hy
          have HO2 := Lib.hid hO2
          have HW2 := Lib.hid hW2
          clear hy hO2 hW2 hF' HA
          go_wp2_with fail
          refine mh_l14 HB.out hn hM hM2 lG lH HHG.out HSZ.out HY.out hi2 HO2.out HW2.out _ _ _ _ _ _ _ _ _ _ _ _ _ _ _ _ _ _ _ _ _ _ _ _ _ _ _ _ _ _ _ _ _ _ _ _ _ _ _ _ _ _ _ _ _ _ _ _ _ _ _ _ _ _ _ _ _ _ _ _ _ _ _ _ _ _ _ _ _ _ _ _ _ _ _ _ _ _ _ _ _ _ _ _ _ _ _ _ _ _ _ _ _ _ _ _ _ _ _ _ _ _ _ _ _ _ _ _ _ _ _ _ _ _ _ _ _ _ _ _ _ _ _ _ _ _ _ _ _ _ _ _ _ _ _ _ _ _ _ _ _ _ _ _ _ _ _ _ _ _ _ _ _ _ _ _ _ _ _ _ _ _ _ _ _ _ _ _ _ _ _ _ _ _ _ _ _ _ _ _ _ _ _ _ _ _ _ _ _ _ _ _ _ _ _ _ _ _ _ _ _ _ _ _ _ _ _ _ _ _ _ _ _ _ _ _ _ _ _ _ _ _ _ _ _ _ _ _ _ _ _ _ _ _ _ _ _ _ _ _ _ _ _ _ _ _ _ _ _ _ _ _ ?_
          rintro F3 w3 ⟨v8, v10, l3, r3, hF3, hl3, hW3⟩
          refine HA0.out _ _ ?_
          rw [mh_frame hF3]
          have HL3 := Lib.hid hl3
          have HW3 := Lib.hid hW3
          clear hl3 hW3 hF3
          go_wp2_with fail
          exact HEND.out _ _ ⟨⟨rfl, rfl, rfl⟩, l3, HL3.out, R, r3, HW3.out⟩
        · obtain ⟨q', rfl⟩ : ∃ q', q = q' + 1 := ⟨q - 1, by omega⟩
          obtain rfl : y = (q' : Nat) := by omega
          have hqn : q' < n := by omega
          have hlq := HLM.out q' (by omega) hqn
          have hlq1 := (HOK.out.2 q' hqn).1
          have hcm := HLF.out.cm
          obtain ⟨b1, b2, b3⟩ := HB.out q' hqn
          have hq5 : (q' : Int) < 512 := by omega
          by_cases hge : cur ≤ l q'
          · have hL2 := HLF.out.skip HOK.out hlq hge
            obtain ⟨x2, hx2⟩ : ∃ x2, l q' = x2 := ⟨_, rfl⟩
            have kI : wr.cell? ⟨G, 1 + q', none⟩ = some (.int .u64 (nd (c q') (pa q') (sy q') x2 : Nat)) := by rw [← hx2]; exact HWR.out.g.cellv (1 + q') (by omega) _ (NV_at hqn)
            rw [hx2] at hlq hlq1 hge
            have KI := Lib.hid (ndNbBits_any kI (by omega) (by omega) (by omega) (by omega))
            have hgi : (cur : Int) ≤ (x2 : Int) := by omega
            have hd1 : decide ((cur : Int) ≤ (x2 : Int)) = true := decide_eq_true hgi
            have HL2 := Lib.hid hL2
            clear hx2 hL2 hy
            go_wp2_with fail
            refine KI.out.mono ?_
            rintro e w3 ⟨rfl, h9⟩
            have h9 := h9.symm
            subst h9
            go_wp2_with fail
            refine ⟨⟨q', cur, _, r, rfl, rfl, rfl, by omega, HL2.out, HWR.out⟩, by simp [intOf]⟩
          · have hL2 := HLF.out.new HOK.out hqn (by omega)
            obtain ⟨mx, hmx⟩ : ∃ mx, M - l q' = mx := ⟨_, rfl⟩
            have hst := HWR.out.setR HSZ.out lH lG mx (.int .u32 (q' : Nat)) (rkV_upd r mx (some q'))
            have zm := HWR.out.r.frozen mx
            have km := HWR.out.r.cell mx (by omega)
            obtain ⟨x2, hx2⟩ : ∃ x2, l q' = x2 := ⟨_, rfl⟩
            have kI : wr.cell? ⟨G, 1 + q', none⟩ = some (.int .u64 (nd (c q') (pa q') (sy q') x2 : Nat)) := by rw [← hx2]; exact HWR.out.g.cellv (1 + q') (by omega) _ (NV_at hqn)
            rw [hmx, hx2] at hL2
            rw [hx2] at hlq hlq1 hge hmx
            have KI := Lib.hid (ndNbBits_any kI (by omega) (by omega) (by omega) (by omega))
            have hgi : ¬ (cur : Int) ≤ (x2 : Int) := by omega
            have hd1 : decide ((cur : Int) ≤ (x2 : Int)) = false := decide_eq_false hgi
            have hmi : (M : Int) - (x2 : Int) = (mx : Nat) := by omega
            have hm13 : (mx : Int) < 13 := by omega
            have HL2 := Lib.hid hL2
            have HST := Lib.hid hst
            clear hx2 hL2 hst hmx hge hy
            go_wp2_with fail
            refine KI.out.mono ?_
            rintro e w3 ⟨rfl, h9⟩
            have h9 := h9.symm
            subst h9
            go_wp2_with fail
            refine KI.out.mono ?_
            rintro e w3 ⟨rfl, h9⟩
            have h9 := h9.symm
            subst h9
            go_wp2_with fail
            refine ⟨⟨q', x2, _, updO r mx (some q'), rfl, rfl, rfl, by omega, HL2.out, HST.out⟩, by simp [intOf]⟩
end Go.Proofs.YthkklojjpgjiiaaFmt
