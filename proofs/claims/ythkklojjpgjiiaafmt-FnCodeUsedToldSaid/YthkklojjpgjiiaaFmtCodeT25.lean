/-
  huff0's setMaxHeight: one payment. Conditions: those of the theorem.
-/
import Derived.Test.YthkklojjpgjiiaaFmtCodeT19
import Derived.Deep.CutBlock
import Derived.Deep.CutRange
namespace Go.Proofs.YthkklojjpgjiiaaFmt
open Go.RowKit

set_option maxRecDepth 100000 in
set_option maxHeartbeats 6400000 in
theorem mh_u8 {w w5 : World} {H G R n M : Nat} {f : Nat → Value} {z c pa sy : Nat → Nat} (hB : NdB n c pa sy) (hn : n ≤ 256) (hM : 5 ≤ M) (hM2 : M ≤ 11) (hG : G < R) (hH : H < R) (hHG : H ≠ G) (hwR : w.heap.size ≤ R)
    {T i b b' p x1 : Nat} {y : Int} {l : Nat → Nat} {r : Nat → Option Nat} {rr : Option Nat} (hT1 : 1 ≤ T) (hy2 : y = (T : Int) - ((2 ^ (b - 1) : Nat) : Int)) (hb' : b = b' + 1) (hc1 : 1 ≤ b) (hc2 : b < M) (hr : r b = some p) (hor : 2 ^ (b - 1) ≤ T ∨ ∀ k, 1 ≤ k → k < b → r k = none) (hrr : RRok r b' p rr) (hx1 : l p + 1 = x1) (hP : PayI n M T i l r) (hW : MhW w H G R f (ndV (NV z n c pa sy (updN l p x1))) (rkV (updO r b' rr)) w5) (Q : Exit → Act → World → Prop)
    (u0 u1 u2 u3 u4 u7 u9 u12 u13 u14 u16 u17 u18 u19 u20 u21 u22 u23 u24 u25 u26 u27 u28 u29 u30 u31 u32 u33 u34 u35 u36 u37 u38 u39 u40 u41 u42 u43 u44 u45 u46 u47 u48 u49 u50 u51 u52 u53 u54 u55 u56 u57 u58 u59 u60 u61 u62 u63 u64 u65 u66 u67 u68 u69 u70 u71 u72 u73 u74 u75 u76 u77 u78 u79 u80 u81 u82 u83 u84 u85 u86 u87 u88 u89 u90 u91 u92 u93 u94 u95 u96 u97 u98 u99 u100 u101 u102 u103 u104 u105 u106 u107 u108 u109 u110 u111 u112 u113 u114 u115 u116 u117 u118 u119 u120 u121 u122 u123 u124 u125 u126 u127 u128 u129 u130 u131 u132 u133 u134 u135 u136 u137 u138 u139 u140 u141 u142 u143 u144 u145 u146 u147 u148 u149 u150 u151 u152 u153 u154 u155 u156 u157 u158 u159 u160 u161 u162 u163 u164 u165 u166 u167 u168 u169 u170 u171 u172 u173 u174 u175 u176 u177 u178 u179 u180 u181 u182 u183 u184 u185 u186 u187 u188 u189 u190 u191 u192 u193 u194 u195 u196 u197 u198 u199 u200 u201 u202 u203 u204 u205 u206 u207 u208 u209 u210 u211 u212 u213 u214 u215 u216 u217 u218 u219 u220 u221 u222 u223 u224 u225 u226 u227 u228 u229 u230 u231 u232 u233 u234 u235 u236 u237 u238 u239 u240 u241 u242 u243 u244 u245 u246 u247 u248 u249 u250 u251 u252 u253 u254 u255 : Value)
    (hK : ∀ F w', (∃ v8, MhF M G R v8 (.int .u32 (i : Nat)) F ∧ MhP w H G R n M f z c pa sy i F w' ∧ (intOf v8).toNat < T) → Q .normal F w') :
    Code.wp Tryf.prog mhU8 Q ⟨#[u0, u1, u2, u3, u4, .int .u8 (M : Nat), .slice (some ⟨G, 1, none⟩) 512 512, u7, .int .i64 y, u9, .int .u32 (i : Nat), .pointer (some ⟨R, 0, none⟩), u12, u13, u14, .int .u8 (b : Nat), u16, u17, u18, u19, u20, u21, u22, u23, u24, u25, u26, u27, u28, u29, u30, u31, u32, u33, u34, u35, u36, u37, u38, u39, u40, u41, u42, u43, u44, u45, u46, u47, u48, u49, u50, u51, u52, u53, u54, u55, u56, u57, u58, u59, u60, u61, u62, u63, u64, u65, u66, u67, u68, u69, u70, u71, u72, u73, u74, u75, u76, u77, u78, u79, u80, u81, u82, u83, u84, u85, u86, u87, u88, u89, u90, u91, u92, u93, u94, u95, u96, u97, u98, u99, u100, u101, u102, u103, u104, u105, u106, u107, u108, u109, u110, u111, u112, u113, u114, u115, u116, u117, u118, u119, u120, u121, u122, u123, u124, u125, u126, u127, u128, u129, u130, u131, u132, u133, u134, u135, u136, u137, u138, u139, u140, u141, u142, u143, u144, u145, u146, u147, u148, u149, u150, u151, u152, u153, u154, u155, u156, u157, u158, u159, u160, u161, u162, u163, u164, u165, u166, u167, u168, u169, u170, u171, u172, u173, u174, u175, u176, u177, u178, u179, u180, u181, u182, u183, u184, u185, u186, u187, u188, u189, u190, u191, u192, u193, u194, u195, u196, u197, u198, u199, u200, u201, u202, u203, u204, u205, u206, u207, u208, u209, u210, u211, u212, u213, u214, u215, u216, u217, u218, u219, u220, u221, u222, u223, u224, u225, u226, u227, u228, u229, u230, u231, u232, u233, u234, u235, u236, u237, u238, u239, u240, u241, u242, u243, u244, u245, u246, u247, u248, u249, u250, u251, u252, u253, u254, u255], []⟩ w5 := by
  conv => arg 2; whnf
  have HB := Lib.hid hB
  have HHG := Lib.hid hHG
  have HWR := Lib.hid hwR
  have HSTEP := Lib.hid (hP.step hT1 hc1 hr hor)
  have hps := hP.some_lt hc1 hr
  have HR0 := Lib.hid hr
  have HP := Lib.hid hP
  have HW := Lib.hid hW
  have HK := Lib.hid hK
  have HY2 := Lib.hid hy2
  have HB' := Lib.hid hb'
  have HRR := Lib.hid hrr
  have HX1 := Lib.hid hx1
  have hb13 : (b : Int) < 13 := by omega
  have hb13' : (b' : Int) < 13 := by omega
  have hpi5 : (p : Int) < 512 := by omega
  obtain ⟨mb, hmb⟩ : ∃ mb, M - b = mb := ⟨_, rfl⟩
  have hmbi : (M : Int) - (b : Int) = (mb : Nat) := by omega
  have HMB := Lib.hid (show mb + b = M by omega)
  clear hB hHG hwR hP hW hK hr hor hy2 hb' hrr hx1 hmb
  have HST := HW
  have k1 : w5.cell? ⟨R, b, none⟩ = some (.int .u32 (p : Nat)) := HST.out.r.cellv b (by omega) _ (by unfold rkV updO; rw [if_neg (by have := HB'.out; omega), HR0.out]; rfl)
  have z1 := HST.out.r.frozen b
  by_cases hp0 : p = 0
  · have hd2 : ((p : Int) == 0) = true := beq_iff_eq.2 (by omega)
    have hd3 : decide ((p : Int) = 0) = true := decide_eq_true (by omega)
    have hwe := HST.out.setR HWR.out hH hG b (.int .u32 4042322160) (rkV_upd _ b none)
    have HWE := Lib.hid hwe
    have HP0 := Lib.hid hp0
    clear hwe hp0
    have hmw := (HWE.out.cgR (payR_eq HB'.out HRR.out (l := l) (M := M) (o := none) (by rw [if_pos HP0.out])))
    have HMW := Lib.hid hmw
    clear hmw
    go_wp2_with fail
    rcases HSTEP.out with ⟨T', h1, h2⟩ | ⟨E, h0, h1, h2⟩
    · refine HK.out _ _ ⟨.int .i64 y, ⟨rfl, rfl, rfl, rfl, rfl, rfl, rfl⟩, .inl ⟨T', _, _, congrArg (Value.int .i64) (by have := HY2.out; omega), h2, ?_⟩, ?_⟩
      · rw [HX1.out]; exact HMW.out
      · have := HY2.out
        have := Nat.two_pow_pos (b - 1)
        simp only [intOf]
        omega
    · refine HK.out _ _ ⟨.int .i64 y, ⟨rfl, rfl, rfl, rfl, rfl, rfl, rfl⟩, .inr ⟨E, y, _, _, h0, rfl, by have := HY2.out; omega, HP.out.hi.1, h2, ?_⟩, ?_⟩
      · rw [HX1.out]; exact HMW.out
      · have := HY2.out
        have := Nat.two_pow_pos (b - 1)
        simp only [intOf]
        omega
  · have hd2 : ((p : Int) == 0) = false := beq_eq_false_iff_ne.2 (by omega)
    have hd3 : decide ((p : Int) = 0) = false := decide_eq_false (by omega)
    obtain ⟨p', hp'⟩ : ∃ p', p = p' + 1 := ⟨p - 1, by omega⟩
    have hsub : (p : Int) - 1 = (p' : Nat) := by omega
    have hp'n : p' < n := by omega
    have hp'5 : (p' : Int) < 512 := by omega
    have hst2 := HST.out.setR HWR.out hH hG b (.int .u32 (p' : Nat)) (rkV_upd _ b (some p'))
    have HST2 := Lib.hid hst2
    have HP' := Lib.hid hp'
    clear hst2 hp'
    go_upto_region 49 with fail
    generalize World.setCell _ _ _ = w6 at HST2 ⊢
    have k2 : w6.cell? ⟨R, b, none⟩ = some (.int .u32 (p' : Nat)) := HST2.out.r.cellv b (by omega) _ (by unfold rkV updO; rw [if_pos rfl]; rfl)
    have z2 := HST2.out.r.frozen b
    obtain ⟨b4, b5, b6⟩ := HB.out p' hp'n
    have hl2 := HP.out.ok.2 p' hp'n
    obtain ⟨x2, hx2⟩ : ∃ x2, l p' = x2 := ⟨_, rfl⟩
    rw [hx2] at hl2
    have kq : w6.cell? ⟨G, 1 + p', none⟩ = some (.int .u64 (nd (c p') (pa p') (sy p') x2 : Nat)) := by rw [← hx2]; exact HST2.out.g.cellv (1 + p') (by omega) _ (by rw [NV_at hp'n, updN_ne _ _ _ _ (by have := HP'.out; omega)])
    have KQ := Lib.hid (ndNbBits_any kq (by omega) (by omega) (by omega) (by omega))
    have HX2 := Lib.hid hx2
    clear hx2 k1 z1 kq
    by_cases hxm : (x2 : Int) = (mb : Int)
    · have hd4 : ((x2 : Int) == (mb : Int)) = true := beq_iff_eq.2 hxm
      have hd5 : decide ((x2 : Int) = (mb : Int)) = true := decide_eq_true hxm
      have hd6 : ((x2 : Int) != (mb : Int)) = false := by simp [hxm]
      have HXM := Lib.hid hxm
      clear hxm
      go_wp2_with fail
      refine KQ.out.mono ?_
      rintro e w7 ⟨rfl, h9⟩
      have h9 := h9.symm
      subst h9
      have HWE := HST2
      have hmw := (HWE.out.cgR (payR_eq HB'.out HRR.out (l := l) (M := M) (o := some p') (by have h1 := HP'.out; have h2 := HXM.out; have h3 := HMB.out; have h4 := HX2.out; rw [if_neg (by omega), show p - 1 = p' by omega, if_pos (by omega)])))
      have HMW := Lib.hid hmw
      clear hmw
      go_wp2_with fail
      rcases HSTEP.out with ⟨T', h1, h2⟩ | ⟨E, h0, h1, h2⟩
      · refine HK.out _ _ ⟨.int .i64 y, ⟨rfl, rfl, rfl, rfl, rfl, rfl, rfl⟩, .inl ⟨T', _, _, congrArg (Value.int .i64) (by have := HY2.out; omega), h2, ?_⟩, ?_⟩
        · rw [HX1.out]; exact HMW.out
        · have := HY2.out
          have := Nat.two_pow_pos (b - 1)
          simp only [intOf]
          omega
      · refine HK.out _ _ ⟨.int .i64 y, ⟨rfl, rfl, rfl, rfl, rfl, rfl, rfl⟩, .inr ⟨E, y, _, _, h0, rfl, by have := HY2.out; omega, HP.out.hi.1, h2, ?_⟩, ?_⟩
        · rw [HX1.out]; exact HMW.out
        · have := HY2.out
          have := Nat.two_pow_pos (b - 1)
          simp only [intOf]
          omega
    · have hd4 : ((x2 : Int) == (mb : Int)) = false := beq_eq_false_iff_ne.2 hxm
      have hd5 : decide ((x2 : Int) = (mb : Int)) = false := decide_eq_false hxm
      have hd6 : ((x2 : Int) != (mb : Int)) = true := by simp [hxm]
      have HXM := Lib.hid hxm
      have hwe := (HST2.out.setR HWR.out hH hG b (.int .u32 4042322160) (rkV_upd _ b none)).cgR (updO_twice _ _ _ _)
      have HWE := Lib.hid hwe
      clear hxm hwe
      go_wp2_with fail
      refine KQ.out.mono ?_
      rintro e w7 ⟨rfl, h9⟩
      have h9 := h9.symm
      subst h9
      have hmw := (HWE.out.cgR (payR_eq HB'.out HRR.out (l := l) (M := M) (o := none) (by have h1 := HP'.out; have h2 := HXM.out; have h3 := HMB.out; have h4 := HX2.out; rw [if_neg (by omega), show p - 1 = p' by omega, if_neg (by omega)])))
      have HMW := Lib.hid hmw
      clear hmw
      go_wp2_with fail
      rcases HSTEP.out with ⟨T', h1, h2⟩ | ⟨E, h0, h1, h2⟩
      · refine HK.out _ _ ⟨.int .i64 y, ⟨rfl, rfl, rfl, rfl, rfl, rfl, rfl⟩, .inl ⟨T', _, _, congrArg (Value.int .i64) (by have := HY2.out; omega), h2, ?_⟩, ?_⟩
        · rw [HX1.out]; exact HMW.out
        · have := HY2.out
          have := Nat.two_pow_pos (b - 1)
          simp only [intOf]
          omega
      · refine HK.out _ _ ⟨.int .i64 y, ⟨rfl, rfl, rfl, rfl, rfl, rfl, rfl⟩, .inr ⟨E, y, _, _, h0, rfl, by have := HY2.out; omega, HP.out.hi.1, h2, ?_⟩, ?_⟩
        · rw [HX1.out]; exact HMW.out
        · have := HY2.out
          have := Nat.two_pow_pos (b - 1)
          simp only [intOf]
          omega
set_option maxRecDepth 100000 in
set_option maxHeartbeats 6400000 in
theorem mh_s8 {w w4 : World} {H G R n M : Nat} {f : Nat → Value} {z c pa sy : Nat → Nat} (hB : NdB n c pa sy) (hn : n ≤ 256) (hM : 5 ≤ M) (hM2 : M ≤ 11) (hG : G < R) (hH : H < R) (hHG : H ≠ G) (hwR : w.heap.size ≤ R)
    {T i b b' p x1 : Nat} {y : Int} {l : Nat → Nat} {r : Nat → Option Nat} {rr : Option Nat} (hT1 : 1 ≤ T) (hy2 : y = (T : Int) - ((2 ^ (b - 1) : Nat) : Int)) (hb' : b = b' + 1) (hc1 : 1 ≤ b) (hc2 : b < M) (hr : r b = some p) (hor : 2 ^ (b - 1) ≤ T ∨ ∀ k, 1 ≤ k → k < b → r k = none) (hrr : RRok r b' p rr) (hx1 : l p + 1 = x1) (hP : PayI n M T i l r) (hW : MhW w H G R f (ndV (NV z n c pa sy l)) (rkV (updO r b' rr)) w4) (Q : Exit → Act → World → Prop)
    (u0 u1 u2 u3 u4 u7 u9 u12 u13 u14 u16 u17 u18 u19 u20 u21 u22 u23 u24 u25 u26 u27 u28 u29 u30 u31 u32 u33 u34 u35 u36 u37 u38 u39 u40 u41 u42 u43 u44 u45 u46 u47 u48 u49 u50 u51 u52 u53 u54 u55 u56 u57 u58 u59 u60 u61 u62 u63 u64 u65 u66 u67 u68 u69 u70 u71 u72 u73 u74 u75 u76 u77 u78 u79 u80 u81 u82 u83 u84 u85 u86 u87 u88 u89 u90 u91 u92 u93 u94 u95 u96 u97 u98 u99 u100 u101 u102 u103 u104 u105 u106 u107 u108 u109 u110 u111 u112 u113 u114 u115 u116 u117 u118 u119 u120 u121 u122 u123 u124 u125 u126 u127 u128 u129 u130 u131 u132 u133 u134 u135 u136 u137 u138 u139 u140 u141 u142 u143 u144 u145 u146 u147 u148 u149 u150 u151 u152 u153 u154 u155 u156 u157 u158 u159 u160 u161 u162 u163 u164 u165 u166 u167 u168 u169 u170 u171 u172 u173 u174 u175 u176 u177 u178 u179 u180 u181 u182 u183 u184 u185 u186 u187 u188 u189 u190 u191 u192 u193 u194 u195 u196 u197 u198 u199 u200 u201 u202 u203 u204 u205 u206 u207 u208 u209 u210 u211 u212 u213 u214 u215 u216 u217 u218 u219 u220 u221 u222 u223 u224 u225 u226 u227 u228 u229 u230 u231 u232 u233 u234 u235 u236 u237 u238 u239 u240 u241 u242 u243 u244 u245 u246 u247 u248 u249 u250 u251 u252 u253 u254 u255 : Value)
    (hK : ∀ F w', (∃ v8, MhF M G R v8 (.int .u32 (i : Nat)) F ∧ MhP w H G R n M f z c pa sy i F w' ∧ (intOf v8).toNat < T) → Q .normal F w') :
    Code.wp Tryf.prog mhS8 Q ⟨#[u0, u1, u2, u3, u4, .int .u8 (M : Nat), .slice (some ⟨G, 1, none⟩) 512 512, u7, .int .i64 y, u9, .int .u32 (i : Nat), .pointer (some ⟨R, 0, none⟩), u12, u13, u14, .int .u8 (b : Nat), u16, u17, u18, u19, u20, u21, u22, u23, u24, u25, u26, u27, u28, u29, u30, u31, u32, u33, u34, u35, u36, u37, u38, u39, u40, u41, u42, u43, u44, u45, u46, u47, u48, u49, u50, u51, u52, u53, u54, u55, u56, u57, u58, u59, u60, u61, u62, u63, u64, u65, u66, u67, u68, u69, u70, u71, u72, u73, u74, u75, u76, u77, u78, u79, u80, u81, u82, u83, u84, u85, u86, u87, u88, u89, u90, u91, u92, u93, u94, u95, u96, u97, u98, u99, u100, u101, u102, u103, u104, u105, u106, u107, u108, u109, u110, u111, u112, u113, u114, u115, u116, u117, u118, u119, u120, u121, u122, u123, u124, u125, u126, u127, u128, u129, u130, u131, u132, u133, u134, u135, u136, u137, u138, u139, u140, u141, u142, u143, u144, u145, u146, u147, u148, u149, u150, u151, u152, u153, u154, u155, u156, u157, u158, u159, u160, u161, u162, u163, u164, u165, u166, u167, u168, u169, u170, u171, u172, u173, u174, u175, u176, u177, u178, u179, u180, u181, u182, u183, u184, u185, u186, u187, u188, u189, u190, u191, u192, u193, u194, u195, u196, u197, u198, u199, u200, u201, u202, u203, u204, u205, u206, u207, u208, u209, u210, u211, u212, u213, u214, u215, u216, u217, u218, u219, u220, u221, u222, u223, u224, u225, u226, u227, u228, u229, u230, u231, u232, u233, u234, u235, u236, u237, u238, u239, u240, u241, u242, u243, u244, u245, u246, u247, u248, u249, u250, u251, u252, u253, u254, u255], []⟩ w4 := by
  conv => arg 2; whnf
  have HOR := Lib.hid hor
  have HB := Lib.hid hB
  have HHG := Lib.hid hHG
  have HWR := Lib.hid hwR
  have HSTEP := Lib.hid (hP.step hT1 hc1 hr hor)
  have hps := hP.some_lt hc1 hr
  have HR0 := Lib.hid hr
  have HP := Lib.hid hP
  have HW := Lib.hid hW
  have HK := Lib.hid hK
  have HY2 := Lib.hid hy2
  have HB' := Lib.hid hb'
  have HRR := Lib.hid hrr
  have HX1 := Lib.hid hx1
  have hb13 : (b : Int) < 13 := by omega
  have hb13' : (b' : Int) < 13 := by omega
  have hpi5 : (p : Int) < 512 := by omega
  obtain ⟨mb, hmb⟩ : ∃ mb, M - b = mb := ⟨_, rfl⟩
  have hmbi : (M : Int) - (b : Int) = (mb : Nat) := by omega
  have HMB := Lib.hid (show mb + b = M by omega)
  clear hB hHG hwR hP hW hK hr hor hy2 hb' hrr hx1 hmb
  have HW4 := HW
  obtain ⟨b1, b2, b3⟩ := HB.out p hps.1
  have l1 := (HP.out.ok.2 p hps.1).2
  obtain ⟨x, hx⟩ : ∃ x, l p = x := ⟨_, rfl⟩
  have hx1 := HX1.out
  rw [hx] at l1 hx1
  have h1x : 1 + (x : Int) = (x1 : Nat) := by omega
  have KN := Lib.hid fun wx (hx : wx.cell? ⟨G, 1 + p, none⟩ = some (.int .u64 (nd (c p) (pa p) (sy p) x : Nat))) => ndNbBits_any (w := wx) hx (by omega) (by omega) (by omega) (by omega)
  have KS := Lib.hid fun wx (hx : wx.cell? ⟨G, 1 + p, none⟩ = some (.int .u64 (nd (c p) (pa p) (sy p) x : Nat))) (hf : wx.frozen? ⟨G, 1 + p, none⟩ = false) => ndSetNbBits_any (w := wx) hx hf (by omega) (by omega) (by omega) (by omega) (x1) (by omega)
  have HX := Lib.hid hx
  clear hx hx1
  have k1 : w4.cell? ⟨R, b, none⟩ = some (.int .u32 (p : Nat)) := HW4.out.r.cellv b (by omega) _ (by unfold rkV updO; rw [if_neg (by have := HB'.out; omega), HR0.out]; rfl)
  have z1 := HW4.out.r.frozen b
  have kp : w4.cell? ⟨G, 1 + p, none⟩ = some (.int .u64 (nd (c p) (pa p) (sy p) x : Nat)) := by rw [← HX.out]; exact HW4.out.g.cellv (1 + p) (by omega) _ (NV_at hps.1)
  have zp := HW4.out.g.frozen (1 + p)
  have KN1 := Lib.hid (KN.out (w4.drewN 1) kp)
  have hst := ((HW4.out.drewN 1).setG hG HHG.out (1 + p) (.int .u64 (nd (c p) (pa p) (sy p) x1 : Nat)) (NV_set hps.1 x1))
  have HST := Lib.hid hst
  clear hst
  go_upto_region 45 with fail
  rename_i K1 a1
  have HA := Lib.hid a1
  clear a1
  refine wp_region_noPanic ?_
  refine wp_region_quiet_tail 12 (by kernel_rfl) (by kernel_rfl) ?_
  simp only [List.take_succ_cons, List.take_zero, List.drop_succ_cons, List.drop_zero]
  repeat (go_big_quiet_step (exact KN1.out _))
  refine wpQuiet_nil ?_
  go_wp2_with fail
  refine (KS.out (w4.drewN 1) kp zp).mono ?_
  rintro e w5 ⟨rfl, rfl⟩
  generalize World.setCell _ _ _ = w5 at HST ⊢
  go_wp2_with fail
  refine NoPanic.normal ?_
  refine HA.out _ _ (mh_u8 HB.out hn hM hM2 hG hH HHG.out HWR.out hT1 HY2.out HB'.out hc1 hc2 HR0.out HOR.out HRR.out HX1.out HP.out HST.out _ _ _ _ _ _ _ _ _ _ _ _ _ _ _ _ _ _ _ _ _ _ _ _ _ _ _ _ _ _ _ _ _ _ _ _ _ _ _ _ _ _ _ _ _ _ _ _ _ _ _ _ _ _ _ _ _ _ _ _ _ _ _ _ _ _ _ _ _ _ _ _ _ _ _ _ _ _ _ _ _ _ _ _ _ _ _ _ _ _ _ _ _ _ _ _ _ _ _ _ _ _ _ _ _ _ _ _ _ _ _ _ _ _ _ _ _ _ _ _ _ _ _ _ _ _ _ _ _ _ _ _ _ _ _ _ _ _ _ _ _ _ _ _ _ _ _ _ _ _ _ _ _ _ _ _ _ _ _ _ _ _ _ _ _ _ _ _ _ _ _ _ _ _ _ _ _ _ _ _ _ _ _ _ _ _ _ _ _ _ _ _ _ _ _ _ _ _ _ _ _ _ _ _ _ _ _ _ _ _ _ _ _ _ _ _ _ _ _ _ _ _ _ _ _ _ _ _ _ _ _ _ _ _ _ _ _ _ _ _ _ _ _ _ _ _ _ _ _ _ _ ?_)
  exact fun F w' h => HK.out F w' h
set_option maxRecDepth 100000 in
set_option maxHeartbeats 6400000 in
theorem mh_t8 {w wq : World} {H G R n M : Nat} {f : Nat → Value} {z c pa sy : Nat → Nat} (hB : NdB n c pa sy) (hn : n ≤ 256) (hM : 5 ≤ M) (hM2 : M ≤ 11) (hG : G < R) (hH : H < R) (hHG : H ≠ G) (hwR : w.heap.size ≤ R)
    {T i b p : Nat} {l : Nat → Nat} {r : Nat → Option Nat} (hT1 : 1 ≤ T) (hT8 : T < 256) (hc1 : 1 ≤ b) (hc2 : b < M) (hr : r b = some p) (hor : 2 ^ (b - 1) ≤ T ∨ ∀ k, 1 ≤ k → k < b → r k = none) (hP : PayI n M T i l r) (hW : MhW w H G R f (ndV (NV z n c pa sy l)) (rkV r) wq) (Q : Exit → Act → World → Prop)
    (u0 u1 u2 u3 u4 u7 u9 u12 u13 u14 u16 u17 u18 u19 u20 u21 u22 u23 u24 u25 u26 u27 u28 u29 u30 u31 u32 u33 u34 u35 u36 u37 u38 u39 u40 u41 u42 u43 u44 u45 u46 u47 u48 u49 u50 u51 u52 u53 u54 u55 u56 u57 u58 u59 u60 u61 u62 u63 u64 u65 u66 u67 u68 u69 u70 u71 u72 u73 u74 u75 u76 u77 u78 u79 u80 u81 u82 u83 u84 u85 u86 u87 u88 u89 u90 u91 u92 u93 u94 u95 u96 u97 u98 u99 u100 u101 u102 u103 u104 u105 u106 u107 u108 u109 u110 u111 u112 u113 u114 u115 u116 u117 u118 u119 u120 u121 u122 u123 u124 u125 u126 u127 u128 u129 u130 u131 u132 u133 u134 u135 u136 u137 u138 u139 u140 u141 u142 u143 u144 u145 u146 u147 u148 u149 u150 u151 u152 u153 u154 u155 u156 u157 u158 u159 u160 u161 u162 u163 u164 u165 u166 u167 u168 u169 u170 u171 u172 u173 u174 u175 u176 u177 u178 u179 u180 u181 u182 u183 u184 u185 u186 u187 u188 u189 u190 u191 u192 u193 u194 u195 u196 u197 u198 u199 u200 u201 u202 u203 u204 u205 u206 u207 u208 u209 u210 u211 u212 u213 u214 u215 u216 u217 u218 u219 u220 u221 u222 u223 u224 u225 u226 u227 u228 u229 u230 u231 u232 u233 u234 u235 u236 u237 u238 u239 u240 u241 u242 u243 u244 u245 u246 u247 u248 u249 u250 u251 u252 u253 u254 u255 : Value)
    (hK : ∀ F w', (∃ v8, MhF M G R v8 (.int .u32 (i : Nat)) F ∧ MhP w H G R n M f z c pa sy i F w' ∧ (intOf v8).toNat < T) → Q .normal F w') :
    Code.wp Tryf.prog mhT8 Q ⟨#[u0, u1, u2, u3, u4, .int .u8 (M : Nat), .slice (some ⟨G, 1, none⟩) 512 512, u7, .int .i64 (T : Nat), u9, .int .u32 (i : Nat), .pointer (some ⟨R, 0, none⟩), u12, u13, u14, .int .u8 (b : Nat), u16, u17, u18, u19, u20, u21, u22, u23, u24, u25, u26, u27, u28, u29, u30, u31, u32, u33, u34, u35, u36, u37, u38, u39, u40, u41, u42, u43, u44, u45, u46, u47, u48, u49, u50, u51, u52, u53, u54, u55, u56, u57, u58, u59, u60, u61, u62, u63, u64, u65, u66, u67, u68, u69, u70, u71, u72, u73, u74, u75, u76, u77, u78, u79, u80, u81, u82, u83, u84, u85, u86, u87, u88, u89, u90, u91, u92, u93, u94, u95, u96, u97, u98, u99, u100, u101, u102, u103, u104, u105, u106, u107, u108, u109, u110, u111, u112, u113, u114, u115, u116, u117, u118, u119, u120, u121, u122, u123, u124, u125, u126, u127, u128, u129, u130, u131, u132, u133, u134, u135, u136, u137, u138, u139, u140, u141, u142, u143, u144, u145, u146, u147, u148, u149, u150, u151, u152, u153, u154, u155, u156, u157, u158, u159, u160, u161, u162, u163, u164, u165, u166, u167, u168, u169, u170, u171, u172, u173, u174, u175, u176, u177, u178, u179, u180, u181, u182, u183, u184, u185, u186, u187, u188, u189, u190, u191, u192, u193, u194, u195, u196, u197, u198, u199, u200, u201, u202, u203, u204, u205, u206, u207, u208, u209, u210, u211, u212, u213, u214, u215, u216, u217, u218, u219, u220, u221, u222, u223, u224, u225, u226, u227, u228, u229, u230, u231, u232, u233, u234, u235, u236, u237, u238, u239, u240, u241, u242, u243, u244, u245, u246, u247, u248, u249, u250, u251, u252, u253, u254, u255], []⟩ wq := by
  conv => arg 2; whnf
  have HOR := Lib.hid hor
  have HB := Lib.hid hB
  have HHG := Lib.hid hHG
  have HWR := Lib.hid hwR
  have HSTEP := Lib.hid (hP.step hT1 hc1 hr hor)
  have hps := hP.some_lt hc1 hr
  have HR0 := Lib.hid hr
  have HP := Lib.hid hP
  have HW := Lib.hid hW
  have HK := Lib.hid hK
  clear hB hHG hwR hP hW hK hr hor
  have hpi5 : (p : Int) < 512 := by omega
  obtain ⟨b', hb'⟩ : ∃ b', b = b' + 1 := ⟨b - 1, by omega⟩
  have hbs : (b : Int) - 1 = (b' : Nat) := by omega
  have hb13 : (b : Int) < 13 := by omega
  have hb13' : (b' : Int) < 13 := by omega
  have HB' := Lib.hid hb'
  clear hb'
  have hy0 : wrap64 ((T : Int) - wrap64 ((2 : Int) ^ b')) = (T : Int) - ((2 ^ (b - 1) : Nat) : Int) := by
    have h1 := wrap_sub T b hT8 (by omega)
    rw [show b - 1 = b' by have := HB'.out; omega] at h1 ⊢
    exact h1
  have HY0 := Lib.hid hy0
  clear hy0
  cases hrb : r b' with
  | none =>
    have kb : wq.cell? ⟨R, b', none⟩ = some (.int .u32 4042322160) := HW.out.r.cellv b' (by omega) _ (by unfold rkV; rw [hrb]; rfl)
    have kb1 : wq.cell? ⟨R, b, none⟩ = some (.int .u32 (p : Nat)) := HW.out.r.cellv b (by omega) _ (by unfold rkV; rw [HR0.out]; rfl)
    have zb := HW.out.r.frozen b'
    have HRR := Lib.hid (show RRok r b' p (some p) from .inl ⟨hrb, rfl⟩)
    have hst := HW.out.setR HWR.out hH hG b' (.int .u32 (p : Nat)) (rkV_upd r b' (some p))
    have HW4 := Lib.hid hst
    clear hst hrb
    go_upto_if 164 with fail
    rename_i K1 a1
    have HA := Lib.hid a1
    clear a1
    go_wp2_with fail
    refine HA.out _ _ (mh_s8 HB.out hn hM hM2 hG hH HHG.out HWR.out hT1 HY0.out HB'.out hc1 hc2 HR0.out HOR.out HRR.out rfl HP.out HW4.out _ _ _ _ _ _ _ _ _ _ _ _ _ _ _ _ _ _ _ _ _ _ _ _ _ _ _ _ _ _ _ _ _ _ _ _ _ _ _ _ _ _ _ _ _ _ _ _ _ _ _ _ _ _ _ _ _ _ _ _ _ _ _ _ _ _ _ _ _ _ _ _ _ _ _ _ _ _ _ _ _ _ _ _ _ _ _ _ _ _ _ _ _ _ _ _ _ _ _ _ _ _ _ _ _ _ _ _ _ _ _ _ _ _ _ _ _ _ _ _ _ _ _ _ _ _ _ _ _ _ _ _ _ _ _ _ _ _ _ _ _ _ _ _ _ _ _ _ _ _ _ _ _ _ _ _ _ _ _ _ _ _ _ _ _ _ _ _ _ _ _ _ _ _ _ _ _ _ _ _ _ _ _ _ _ _ _ _ _ _ _ _ _ _ _ _ _ _ _ _ _ _ _ _ _ _ _ _ _ _ _ _ _ _ _ _ _ _ _ _ _ _ _ _ _ _ _ _ _ _ _ _ _ _ _ _ _ _ _ _ _ _ _ _ _ _ _ _ _ _ _ ?_)
    exact fun F w' h => HK.out F w' h
  | some q =>
    have hqs : (q : Int) < 512 := by
      by_cases e : b' = 0
      · rw [e] at hrb
        have := HP.out.r0 q hrb
        omega
      · have := HP.out.some_lt (k := b') (by omega) hrb
        omega
    have hq1 : ((q : Int) == 4042322160) = false := by rw [beq_eq_false_iff_ne]; omega
    have hq2 : decide ((q : Int) = 4042322160) = false := decide_eq_false (by omega)
    have kb : wq.cell? ⟨R, b', none⟩ = some (.int .u32 (q : Nat)) := HW.out.r.cellv b' (by omega) _ (by unfold rkV; rw [hrb]; rfl)
    have HRR := Lib.hid (show RRok r b' p (some q) from .inr ⟨q, hrb, rfl⟩)
    have HW4 := Lib.hid (HW.out.cgR (updO_self hrb))
    clear hrb
    go_upto_if 164 with fail
    rename_i K1 a1
    have HA := Lib.hid a1
    clear a1
    go_wp2_with fail
    refine HA.out _ _ (mh_s8 HB.out hn hM hM2 hG hH HHG.out HWR.out hT1 HY0.out HB'.out hc1 hc2 HR0.out HOR.out HRR.out rfl HP.out HW4.out _ _ _ _ _ _ _ _ _ _ _ _ _ _ _ _ _ _ _ _ _ _ _ _ _ _ _ _ _ _ _ _ _ _ _ _ _ _ _ _ _ _ _ _ _ _ _ _ _ _ _ _ _ _ _ _ _ _ _ _ _ _ _ _ _ _ _ _ _ _ _ _ _ _ _ _ _ _ _ _ _ _ _ _ _ _ _ _ _ _ _ _ _ _ _ _ _ _ _ _ _ _ _ _ _ _ _ _ _ _ _ _ _ _ _ _ _ _ _ _ _ _ _ _ _ _ _ _ _ _ _ _ _ _ _ _ _ _ _ _ _ _ _ _ _ _ _ _ _ _ _ _ _ _ _ _ _ _ _ _ _ _ _ _ _ _ _ _ _ _ _ _ _ _ _ _ _ _ _ _ _ _ _ _ _ _ _ _ _ _ _ _ _ _ _ _ _ _ _ _ _ _ _ _ _ _ _ _ _ _ _ _ _ _ _ _ _ _ _ _ _ _ _ _ _ _ _ _ _ _ _ _ _ _ _ _ _ _ _ _ _ _ _ _ _ _ _ _ _ _ _ ?_)
    exact fun F w' h => HK.out F w' h
end Go.Proofs.YthkklojjpgjiiaaFmt
