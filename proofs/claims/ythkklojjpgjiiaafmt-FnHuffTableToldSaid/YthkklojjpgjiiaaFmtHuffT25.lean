/-
  fse.readNCount: a run of zeros is laid. Conditions: those of the theorem.
  fse.readNCount: a run of zeros, its pairs of bits. Conditions: those of the theorem.
  fse.readNCount: a run of zeros. Conditions: those of the theorem.
-/
import Derived.Test.YthkklojjpgjiiaaFmtHuffT09
namespace Go.Proofs.YthkklojjpgjiiaaFmt
open Go.RowKit Go.Extern.Stop Go.Stop Go.Extern

/-- the window behind the zeros -/
def NcZ3 (w : World) (D n : Nat) (l : List UInt8) (f1 : Nat → Value) (out : List Int) (o1 pos : Nat) (v3 v4 v8 v10 v11 v12 : Value) (F : Act) (w' : World) : Prop :=
  ∃ off b bs, o1 ≤ off ∧ NcF D n v3 v4 (.int .u32 (bs : Nat)) v8 (.int .u64 (b : Nat)) v10 v11 v12 F ∧ NcM w D f1 off out w' ∧ 8 * off + b = pos ∧ off + 4 ≤ n ∧ (off + 5 < n → b ≤ 7) ∧ Bs l off (8 * off + b) bs
set_option maxRecDepth 100000 in
set_option maxHeartbeats 6400000 in
theorem nc_z3 {F : Interp} {w : World} {D : Nat} {A : Option Addr} {n c x : Nat} {l : List UInt8} {f1 : Nat → Value} (E : NcE F w D A n c x l f1) {o1 c3 b2 : Nat} {out : List Int} {wr : World} (v3 v4 v8 v10 v11 v12 : Value) (Q : Exit → Act → World → Prop)
    (u1 u2 u13 u14 u15 u16 u17 u18 u19 u20 u21 u22 u23 u24 u25 u26 u27 u28 u29 u30 u31 u32 u33 u34 u35 u36 u37 u38 u39 u40 u41 u42 u43 u44 u45 u46 u47 u48 u49 u50 u51 u52 u53 u54 u55 u56 u57 u58 u59 u60 u61 u62 u63 u64 u65 u66 u67 u68 u69 u70 u71 u72 u73 u74 u75 u76 u77 u78 u79 u80 u81 u82 u83 u84 u85 u86 u87 u88 u89 u90 u91 u92 u93 u94 u95 u96 u97 u98 u99 u100 u101 u102 u103 u104 u105 u106 u107 u108 u109 u110 u111 u112 u113 u114 u115 u116 u117 u118 u119 u120 u121 u122 u123 u124 u125 u126 u127 u128 u129 u130 u131 u132 u133 u134 u135 u136 u137 u138 u139 u140 u141 u142 u143 u144 u145 u146 u147 u148 u149 u150 u151 u152 u153 u154 u155 u156 u157 u158 u159 u160 u161 u162 u163 u164 u165 u166 u167 u168 u169 u170 u171 u172 u173 u174 u175 u176 u177 u178 u179 u180 u181 u182 u183 u184 u185 u186 u187 u188 u189 u190 u191 u192 u193 u194 u195 u196 u197 u198 u199 u200 u201 u202 u203 u204 u205 u206 u207 u208 u209 u210 u211 u212 u213 u214 u215 u216 u217 u218 u219 u220 u221 u222 u223 u224 u225 u226 u227 u228 u229 u230 u231 u232 u233 u234 u235 u236 u237 u238 u239 u240 u241 u242 u243 u244 u245 u246 u247 u248 u249 u250 u251 u252 u253 u254 u255 u256 u257 u258 u259 u260 u261 u262 u263 u264 u265 u266 u267 u268 u269 u270 u271 u272 u273 u274 u275 u276 u277 u278 u279 u280 u281 u282 u283 u284 u285 u286 u287 u288 u289 u290 u291 u292 u293 u294 u295 u296 u297 u298 u299 u300 u301 u302 u303 u304 u305 u306 u307 u308 u309 u310 u311 u312 u313 u314 u315 u316 u317 u318 u319 u320 u321 u322 u323 u324 u325 u326 u327 u328 u329 u330 u331 u332 u333 u334 u335 u336 u337 u338 u339 : Value)
    (hM : NcM w D f1 o1 out wr) (hoff : o1 + 4 ≤ n) (h23 : o1 + 5 < n → c3 ≤ 23) (hbc : c3 < 100200) (hbb : Bs l o1 (8 * o1 + c3) (b2 / 2 ^ 2))
    (hK : ∀ F w', NcZ3 w D n l f1 out o1 (8 * o1 + c3) v3 v4 v8 v10 v11 v12 F w' → Q .normal F w') :
    Code.wp Tryf.prog (cR ncZ2) Q ⟨#[.pointer (some ⟨D, 0, none⟩), u1, u2, v3, v4, .pointer (some ⟨D, 512, none⟩), .int .i64 (n : Nat), .int .u32 (b2 : Nat), v8, .int .u64 (c3 : Nat), v10, v11, v12, u13, u14, u15, u16, u17, u18, u19, u20, u21, u22, u23, u24, u25, u26, u27, u28, u29, u30, u31, u32, u33, u34, u35, u36, u37, u38, u39, u40, u41, u42, u43, u44, u45, u46, u47, u48, u49, u50, u51, u52, u53, u54, u55, u56, u57, u58, u59, u60, u61, u62, u63, u64, u65, u66, u67, u68, u69, u70, u71, u72, u73, u74, u75, u76, u77, u78, u79, u80, u81, u82, u83, u84, u85, u86, u87, u88, u89, u90, u91, u92, u93, u94, u95, u96, u97, u98, u99, u100, u101, u102, u103, u104, u105, u106, u107, u108, u109, u110, u111, u112, u113, u114, u115, u116, u117, u118, u119, u120, u121, u122, u123, u124, u125, u126, u127, u128, u129, u130, u131, u132, u133, u134, u135, u136, u137, u138, u139, u140, u141, u142, u143, u144, u145, u146, u147, u148, u149, u150, u151, u152, u153, u154, u155, u156, u157, u158, u159, u160, u161, u162, u163, u164, u165, u166, u167, u168, u169, u170, u171, u172, u173, u174, u175, u176, u177, u178, u179, u180, u181, u182, u183, u184, u185, u186, u187, u188, u189, u190, u191, u192, u193, u194, u195, u196, u197, u198, u199, u200, u201, u202, u203, u204, u205, u206, u207, u208, u209, u210, u211, u212, u213, u214, u215, u216, u217, u218, u219, u220, u221, u222, u223, u224, u225, u226, u227, u228, u229, u230, u231, u232, u233, u234, u235, u236, u237, u238, u239, u240, u241, u242, u243, u244, u245, u246, u247, u248, u249, u250, u251, u252, u253, u254, u255, u256, u257, u258, u259, u260, u261, u262, u263, u264, u265, u266, u267, u268, u269, u270, u271, u272, u273, u274, u275, u276, u277, u278, u279, u280, u281, u282, u283, u284, u285, u286, u287, u288, u289, u290, u291, u292, u293, u294, u295, u296, u297, u298, u299, u300, u301, u302, u303, u304, u305, u306, u307, u308, u309, u310, u311, u312, u313, u314, u315, u316, u317, u318, u319, u320, u321, u322, u323, u324, u325, u326, u327, u328, u329, u330, u331, u332, u333, u334, u335, u336, u337, u338, u339], []⟩ wr := by
  conv => arg 2; whnf
  obtain ⟨q0, q1, qf, qs⟩ := hM.cells
  rw [E.h512] at q0
  obtain ⟨e8, he8⟩ : ∃ e8, c3 / 8 = e8 := ⟨_, rfl⟩
  have he8i : (c3 : Int) / 8 = (e8 : Int) := by omega
  have he8lt : e8 ≤ 20000 := by omega
  obtain ⟨c7, hc78⟩ : ∃ c7, c3 % 2 ^ 3 = c7 := ⟨_, rfl⟩
  have hc7 : c7 ≤ 7 := by omega
  have hm7 := and_u64 c3 3 (by omega) (by omega) 7 (by decide)
  rw [hc78] at hm7
  have HC7 := Lib.hid hc7
  have HC78 := Lib.hid hc78
  have HE8 := Lib.hid he8
  have H23 := Lib.hid h23
  have HBB := Lib.hid hbb
  clear hc78 he8 h23 hbb
  by_cases ho7 : o1 + 7 ≤ n
  · have d7 : (o1 : Int) ≤ wrap64 ((n : Int) - 7) := by unfold wrap64; have := E.hn; omega
    have HE4 : Hid (o1 + e8 + 4 ≤ n) := Lib.hid (by have := H23.out (by omega); have := HE8.out; omega)
    go_wp2_with fail
    refine (hM.adv e8 (by omega) (by have := E.hn; omega) (e8 : Nat) rfl).mono ?_
    rintro e wa ⟨rfl, hMa⟩
    obtain ⟨X, hX, hX32, KUa⟩ := hMa.u32 E.hs E.hDw HE4.out E.hn
    have KU0 := Lib.hid (KUa 0)
    obtain ⟨q0, q1, qf, qs⟩ := hMa.cells
    rw [E.h512] at q0
    have HXX := Lib.hid hX
    clear KUa hX hMa
    go_wp2_with fail
    refine KU0.out.mono ?_
    rintro e wb ⟨rfl, hMb⟩
    have HMb := Lib.hid hMb
    clear hMb q0 q1 qf qs
    go_wp2_with fail
    have hc7 := HC7.out
    have hb := Bs.load l (o1 + e8) c7 (by rw [E.hnl]; exact HE4.out) (fun _ => by omega)
    rw [HXX.out] at hb
    refine ⟨o1 + e8, c7, X / 2 ^ (c7 % 32), by omega, ⟨rfl, rfl, rfl, rfl, rfl, rfl, rfl, ?_, rfl, rfl, rfl, rfl, rfl⟩, HMb.out, by have := HE8.out; have := HC78.out; omega, HE4.out, fun _ => hc7, hb⟩
    exact congrArg (Value.int .u32) (by rw [Nat.mod_eq_of_lt (show c7 < 32 by omega)]; simp)
  · have d7 : wrap64 ((n : Int) - 7) < (o1 : Int) := by unfold wrap64; have := E.hn; omega
    by_cases ho4 : o1 + e8 + 4 ≤ n
    · have d4 : wrap64 ((o1 : Int) + (e8 : Int)) ≤ wrap64 ((n : Int) - 4) := by unfold wrap64; have := E.hn; omega
      have HE4 : Hid (o1 + e8 + 4 ≤ n) := Lib.hid ho4
      go_wp2_with fail
      refine (hM.adv e8 (by omega) (by have := E.hn; omega) (e8 : Nat) rfl).mono ?_
      rintro e wa ⟨rfl, hMa⟩
      obtain ⟨X, hX, hX32, KUa⟩ := hMa.u32 E.hs E.hDw HE4.out E.hn
      have KU0 := Lib.hid (KUa 0)
      obtain ⟨q0, q1, qf, qs⟩ := hMa.cells
      rw [E.h512] at q0
      have HXX := Lib.hid hX
      clear KUa hX hMa
      go_wp2_with fail
      refine KU0.out.mono ?_
      rintro e wb ⟨rfl, hMb⟩
      have HMb := Lib.hid hMb
      clear hMb q0 q1 qf qs
      go_wp2_with fail
      have hc7 := HC7.out
      have hb := Bs.load l (o1 + e8) c7 (by rw [E.hnl]; exact HE4.out) (fun _ => by omega)
      rw [HXX.out] at hb
      refine ⟨o1 + e8, c7, X / 2 ^ (c7 % 32), by omega, ⟨rfl, rfl, rfl, rfl, rfl, rfl, rfl, ?_, rfl, rfl, rfl, rfl, rfl⟩, HMb.out, by have := HE8.out; have := HC78.out; omega, HE4.out, fun _ => hc7, hb⟩
      exact congrArg (Value.int .u32) (by rw [Nat.mod_eq_of_lt (show c7 < 32 by omega)]; simp)
    · have d4 : wrap64 ((n : Int) - 4) < wrap64 ((o1 : Int) + (e8 : Int)) := by unfold wrap64; have := E.hn; omega
      have HO4 := Lib.hid ho4
      have HO7 := Lib.hid ho7
      have HOFF := Lib.hid hoff
      clear ho4 ho7 hoff
      go_wp2_with fail
      have hoff := HOFF.out
      have ho4 := HO4.out
      have ho7 := HO7.out
      refine ⟨o1, c3, b2 / 2 ^ 2, Nat.le_refl _, ⟨rfl, rfl, rfl, rfl, rfl, rfl, rfl, ?_, rfl, rfl, rfl, rfl, rfl⟩, hM, rfl, hoff, fun h => ?_, HBB.out⟩
      · exact congrArg (Value.int .u32) (by simp)
      · exfalso
        have := H23.out h
        have := HE8.out
        omega

set_option maxRecDepth 100000 in
set_option maxHeartbeats 6400000 in
theorem nc_z2 {F : Interp} {w : World} {D : Nat} {A : Option Addr} {n c x : Nat} {l : List UInt8} {f1 : Nat → Value} (E : NcE F w D A n c x l f1) {o1 c3 b2 m mk K left : Nat} {out : List Int} {wr : World} (v4 v8 v10 v11 v12 : Value) (Q Q6 : Exit → Act → World → Prop) (KK : Act → World → Prop)
    (u1 u2 u14 u15 u16 u17 u18 u19 u20 u21 u22 u23 u24 u25 u26 u27 u28 u29 u30 u31 u32 u33 u34 u35 u36 u37 u38 u39 u40 u41 u42 u43 u44 u45 u46 u47 u48 u49 u50 u51 u52 u53 u54 u55 u56 u57 u58 u59 u60 u61 u62 u63 u64 u65 u66 u67 u68 u69 u70 u71 u72 u73 u74 u75 u76 u77 u78 u79 u80 u81 u82 u83 u84 u85 u86 u87 u88 u89 u90 u91 u92 u93 u94 u95 u96 u97 u98 u99 u100 u101 u102 u103 u104 u105 u106 u107 u108 u109 u110 u111 u112 u113 u114 u115 u116 u117 u118 u119 u120 u121 u122 u123 u124 u125 u126 u127 u128 u129 u130 u131 u132 u133 u134 u135 u136 u137 u138 u139 u140 u141 u142 u143 u144 u145 u146 u147 u148 u149 u150 u151 u152 u153 u154 u155 u156 u157 u158 u159 u160 u161 u162 u163 u164 u165 u166 u167 u168 u169 u170 u171 u172 u173 u174 u175 u176 u177 u178 u179 u180 u181 u182 u183 u184 u185 u186 u187 u188 u189 u190 u191 u192 u193 u194 u195 u196 u197 u198 u199 u200 u201 u202 u203 u204 u205 u206 u207 u208 u209 u210 u211 u212 u213 u214 u215 u216 u217 u218 u219 u220 u221 u222 u223 u224 u225 u226 u227 u228 u229 u230 u231 u232 u233 u234 u235 u236 u237 u238 u239 u240 u241 u242 u243 u244 u245 u246 u247 u248 u249 u250 u251 u252 u253 u254 u255 u256 u257 u258 u259 u260 u261 u262 u263 u264 u265 u266 u267 u268 u269 u270 u271 u272 u273 u274 u275 u276 u277 u278 u279 u280 u281 u282 u283 u284 u285 u286 u287 u288 u289 u290 u291 u292 u293 u294 u295 u296 u297 u298 u299 u300 u301 u302 u303 u304 u305 u306 u307 u308 u309 u310 u311 u312 u313 u314 u315 u316 u317 u318 u319 u320 u321 u322 u323 u324 u325 u326 u327 u328 u329 u330 u331 u332 u333 u334 u335 u336 u337 u338 u339 : Value)
    (hQ6 : ∀ F w', KK F w' → Q6 (.exit 6) F w') (hK6 : ∀ F w', Code.wp Tryf.prog (cR ncZ2) Q F w' → KK F w')
    (hM : NcM w D f1 o1 out wr) (hml : out.length = m) (hmk : m + K = mk) (hmk256 : mk < 256) (hoff : o1 + 4 ≤ n) (h23 : o1 + 5 < n → c3 ≤ 23) (hbc : c3 < 100200) (hbm : c3 ≤ 100 * m + 90) (hbb : Bs l o1 (8 * o1 + c3) (b2 / 2 ^ 2))
    (hle : Least out) (hsum : sumA out + left = 2 ^ (x + 5)) (hend : ∀ R, TopR l R → Ck l (8 * o1 + c3) left (out ++ List.replicate K 0) R)
    (hK : ∀ F w', NcA w D n (x + 5) left m l f1 v4 v8 v10 v11 v12 F w' → Q .normal F w') :
    Code.wp Tryf.prog (cL (cL ncZ2)) Q6 ⟨#[.pointer (some ⟨D, 0, none⟩), u1, u2, .int .u16 (m : Nat), v4, .pointer (some ⟨D, 512, none⟩), .int .i64 (n : Nat), .int .u32 (b2 : Nat), v8, .int .u64 (c3 : Nat), v10, v11, v12, .int .u16 (mk : Nat), u14, u15, u16, u17, u18, u19, u20, u21, u22, u23, u24, u25, u26, u27, u28, u29, u30, u31, u32, u33, u34, u35, u36, u37, u38, u39, u40, u41, u42, u43, u44, u45, u46, u47, u48, u49, u50, u51, u52, u53, u54, u55, u56, u57, u58, u59, u60, u61, u62, u63, u64, u65, u66, u67, u68, u69, u70, u71, u72, u73, u74, u75, u76, u77, u78, u79, u80, u81, u82, u83, u84, u85, u86, u87, u88, u89, u90, u91, u92, u93, u94, u95, u96, u97, u98, u99, u100, u101, u102, u103, u104, u105, u106, u107, u108, u109, u110, u111, u112, u113, u114, u115, u116, u117, u118, u119, u120, u121, u122, u123, u124, u125, u126, u127, u128, u129, u130, u131, u132, u133, u134, u135, u136, u137, u138, u139, u140, u141, u142, u143, u144, u145, u146, u147, u148, u149, u150, u151, u152, u153, u154, u155, u156, u157, u158, u159, u160, u161, u162, u163, u164, u165, u166, u167, u168, u169, u170, u171, u172, u173, u174, u175, u176, u177, u178, u179, u180, u181, u182, u183, u184, u185, u186, u187, u188, u189, u190, u191, u192, u193, u194, u195, u196, u197, u198, u199, u200, u201, u202, u203, u204, u205, u206, u207, u208, u209, u210, u211, u212, u213, u214, u215, u216, u217, u218, u219, u220, u221, u222, u223, u224, u225, u226, u227, u228, u229, u230, u231, u232, u233, u234, u235, u236, u237, u238, u239, u240, u241, u242, u243, u244, u245, u246, u247, u248, u249, u250, u251, u252, u253, u254, u255, u256, u257, u258, u259, u260, u261, u262, u263, u264, u265, u266, u267, u268, u269, u270, u271, u272, u273, u274, u275, u276, u277, u278, u279, u280, u281, u282, u283, u284, u285, u286, u287, u288, u289, u290, u291, u292, u293, u294, u295, u296, u297, u298, u299, u300, u301, u302, u303, u304, u305, u306, u307, u308, u309, u310, u311, u312, u313, u314, u315, u316, u317, u318, u319, u320, u321, u322, u323, u324, u325, u326, u327, u328, u329, u330, u331, u332, u333, u334, u335, u336, u337, u338, u339], []⟩ wr := by
  conv => arg 2; whnf
  have HM := Lib.hid hM
  have HML := Lib.hid hml
  have HMK := Lib.hid hmk
  have HBB := Lib.hid hbb
  have HSUM := Lib.hid hsum
  have HEND := Lib.hid hend
  have HLE := Lib.hid hle
  have HK := Lib.hid hK
  have HQ6 := Lib.hid hQ6
  have HK6 := Lib.hid hK6
  have H23 := Lib.hid h23
  clear hM hml hmk hbb hsum hend hle hK hQ6 hK6 h23
  go_wp2_with fail
  go_loopw [3] (RelZ4 w D o1 m K f1 out) (fun v3 _ => mk - (intOf v3).toNat)
  case atStart => exact ⟨0, Nat.zero_le _, rfl, by simpa using HM.out⟩
  case round =>
    obtain ⟨j, hj, rfl, hM⟩ := hrel
    obtain ⟨mj, hmj⟩ : ∃ mj, m + j = mj := ⟨_, rfl⟩
    rw [hmj]
    have HMJ := Lib.hid hmj
    have HM4 := Lib.hid hM
    have HJ := Lib.hid hj
    have hmj2 : mj ≤ mk := by have := HMK.out; omega
    clear hM hmj hj
    by_cases hlt : mj < mk
    · have hm255 := and_u16 mj 8 (by omega) (by omega) 255 (by decide)
      rw [show mj % 2 ^ 8 = mj from Nat.mod_eq_of_lt (by omega)] at hm255
      have hi : (mj : Int) < 256 := by omega
      obtain ⟨qv, hqv⟩ := HM4.out.normCell (256 + mj) (by omega)
      have hqf := HM4.out.cells.2.2.1 (256 + mj)
      go_wp2_with fail
      refine ⟨⟨j + 1, by have := HMJ.out; have := HMK.out; omega, ?_, ?_⟩, ?_⟩
      · exact congrArg (Value.int .u16) (by have := HMJ.out; omega)
      · have h := HM4.out.push 0
        rw [List.length_append, List.length_replicate, HML.out, HMJ.out, Nat.mod_eq_of_lt (by omega), List.append_assoc, ← List.replicate_succ'] at h
        exact h
      · simp only [intOf]
        omega
    · obtain rfl : mj = mk := by omega
      obtain rfl : j = K := by have := HMJ.out; have := HMK.out; omega
      go_wp2_with fail
      refine HQ6.out _ _ (HK6.out _ _ ?_)
      refine nc_z3 E (.int .u16 (mj : Nat)) v4 v8 v10 v11 v12 _ _ _ _ _ _ _ _ _ _ _ _ _ _ _ _ _ _ _ _ _ _ _ _ _ _ _ _ _ _ _ _ _ _ _ _ _ _ _ _ _ _ _ _ _ _ _ _ _ _ _ _ _ _ _ _ _ _ _ _ _ _ _ _ _ _ _ _ _ _ _ _ _ _ _ _ _ _ _ _ _ _ _ _ _ _ _ _ _ _ _ _ _ _ _ _ _ _ _ _ _ _ _ _ _ _ _ _ _ _ _ _ _ _ _ _ _ _ _ _ _ _ _ _ _ _ _ _ _ _ _ _ _ _ _ _ _ _ _ _ _ _ _ _ _ _ _ _ _ _ _ _ _ _ _ _ _ _ _ _ _ _ _ _ _ _ _ _ _ _ _ _ _ _ _ _ _ _ _ _ _ _ _ _ _ _ _ _ _ _ _ _ _ _ _ _ _ _ _ _ _ _ _ _ _ _ _ _ _ _ _ _ _ _ _ _ _ _ _ _ _ _ _ _ _ _ _ _ _ _ _ _ _ _ _ _ _ _ _ _ _ _ _ _ _ _ _ _ _ _ _ _ _ _ _ _ _ _ _ _ _ _ _ _ _ _ _ _ _ _ _ _ _ _ _ _ _ _ _ _ _ _ _ _ _ _ _ _ _ _ _ _ _ _ _ _ _ _ _ _ _ _ _ _ _ _ _ _ _ _ _ _ _ _ _ _ _ _ _ _ _ _ _ _ _ _ _ _ _ _ HM4.out hoff H23.out hbc HBB.out ?_
      rintro F' w' ⟨off, b, bs, hoo, hF, hM2, hpos, h4, hb7, hB⟩
      refine HK.out F' w' ⟨_, _, _, hF, ⟨mj, bs, b, off, _, rfl, rfl, rfl, hM2, by rw [List.length_append, List.length_replicate, HML.out, HMK.out], h4, hb7, hB, ?_, ?_, HLE.out.zeros j, by rw [sumA_append, sumA_zeros]; exact HSUM.out, fun R hR => by rw [hpos]; exact HEND.out R hR⟩, by simp only [intOf]; have := HMK.out; omega⟩
      · have := HSUM.out
        have : 2 ^ (x + 5) ≤ 64 := Nat.le_trans (Nat.pow_le_pow_right (by omega) (show x + 5 ≤ 6 by have := E.hx1; omega)) (by decide)
        omega
      · have := HMK.out
        omega
end Go.Proofs.YthkklojjpgjiiaaFmt
namespace Go.Proofs.YthkklojjpgjiiaaFmt
open Go.RowKit Go.Extern.Stop Go.Stop Go.Extern

set_option maxRecDepth 100000 in
set_option maxHeartbeats 6400000 in
theorem nc_z1b {F : Interp} {w : World} {D : Nat} {A : Option Addr} {n c x : Nat} {l : List UInt8} {f1 : Nat → Value} (E : NcE F w D A n c x l f1) {o1 b1 c1 m k left : Nat} {out : List Int} {wr : World} (v4 v8 v10 v11 v12 : Value) (Q Q4 : Exit → Act → World → Prop) (KK : Act → World → Prop)
    (u1 u2 u14 u15 u16 u17 u18 u19 u20 u21 u22 u23 u24 u25 u26 u27 u28 u29 u30 u31 u32 u33 u34 u35 u36 u37 u38 u39 u40 u41 u42 u43 u44 u45 u46 u47 u48 u49 u50 u51 u52 u53 u54 u55 u56 u57 u58 u59 u60 u61 u62 u63 u64 u65 u66 u67 u68 u69 u70 u71 u72 u73 u74 u75 u76 u77 u78 u79 u80 u81 u82 u83 u84 u85 u86 u87 u88 u89 u90 u91 u92 u93 u94 u95 u96 u97 u98 u99 u100 u101 u102 u103 u104 u105 u106 u107 u108 u109 u110 u111 u112 u113 u114 u115 u116 u117 u118 u119 u120 u121 u122 u123 u124 u125 u126 u127 u128 u129 u130 u131 u132 u133 u134 u135 u136 u137 u138 u139 u140 u141 u142 u143 u144 u145 u146 u147 u148 u149 u150 u151 u152 u153 u154 u155 u156 u157 u158 u159 u160 u161 u162 u163 u164 u165 u166 u167 u168 u169 u170 u171 u172 u173 u174 u175 u176 u177 u178 u179 u180 u181 u182 u183 u184 u185 u186 u187 u188 u189 u190 u191 u192 u193 u194 u195 u196 u197 u198 u199 u200 u201 u202 u203 u204 u205 u206 u207 u208 u209 u210 u211 u212 u213 u214 u215 u216 u217 u218 u219 u220 u221 u222 u223 u224 u225 u226 u227 u228 u229 u230 u231 u232 u233 u234 u235 u236 u237 u238 u239 u240 u241 u242 u243 u244 u245 u246 u247 u248 u249 u250 u251 u252 u253 u254 u255 u256 u257 u258 u259 u260 u261 u262 u263 u264 u265 u266 u267 u268 u269 u270 u271 u272 u273 u274 u275 u276 u277 u278 u279 u280 u281 u282 u283 u284 u285 u286 u287 u288 u289 u290 u291 u292 u293 u294 u295 u296 u297 u298 u299 u300 u301 u302 u303 u304 u305 u306 u307 u308 u309 u310 u311 u312 u313 u314 u315 u316 u317 u318 u319 u320 u321 u322 u323 u324 u325 u326 u327 u328 u329 u330 u331 u332 u333 u334 u335 u336 u337 u338 u339 : Value)
    (hQ4 : ∀ F w', KK F w' → Q4 (.exit 4) F w') (hK4 : ∀ F w', Code.wp Tryf.prog (cR ncZ1) Q F w' → KK F w')
    (hl0 : left ≠ 0) (hM : NcM w D f1 o1 out wr) (hml : out.length = m) (hm321 : m ≤ 321) (hoff : o1 + 4 ≤ n) (hbc : o1 + 5 < n → c1 ≤ 7) (hB : Bs l o1 (8 * o1 + c1) b1) (hz : m + k + 24 < 65536) (hc64 : c1 < 100000)
    (hbm : c1 ≤ 100 * m + 72) (hy : b1 % 2 ^ 16 ≠ 65535) (hle : Least out) (hsum : sumA out + left = 2 ^ (x + 5)) (hL : ∀ R, TopR l R → Zk l (8 * o1 + c1) left (out ++ List.replicate k 0) R)
    (hret : ∀ F w', NcBad w D l F w' → Q .ret F w')
    (hK : ∀ F w', NcA w D n (x + 5) left m l f1 v4 v8 v10 v11 v12 F w' → Q .normal F w') :
    Code.wp Tryf.prog (cL (cL ncZ1)) Q4 ⟨#[.pointer (some ⟨D, 0, none⟩), u1, u2, .int .u16 (m : Nat), v4, .pointer (some ⟨D, 512, none⟩), .int .i64 (n : Nat), .int .u32 (b1 : Nat), v8, .int .u64 (c1 : Nat), v10, v11, v12, .int .u16 (m + k : Nat), u14, u15, u16, u17, u18, u19, u20, u21, u22, u23, u24, u25, u26, u27, u28, u29, u30, u31, u32, u33, u34, u35, u36, u37, u38, u39, u40, u41, u42, u43, u44, u45, u46, u47, u48, u49, u50, u51, u52, u53, u54, u55, u56, u57, u58, u59, u60, u61, u62, u63, u64, u65, u66, u67, u68, u69, u70, u71, u72, u73, u74, u75, u76, u77, u78, u79, u80, u81, u82, u83, u84, u85, u86, u87, u88, u89, u90, u91, u92, u93, u94, u95, u96, u97, u98, u99, u100, u101, u102, u103, u104, u105, u106, u107, u108, u109, u110, u111, u112, u113, u114, u115, u116, u117, u118, u119, u120, u121, u122, u123, u124, u125, u126, u127, u128, u129, u130, u131, u132, u133, u134, u135, u136, u137, u138, u139, u140, u141, u142, u143, u144, u145, u146, u147, u148, u149, u150, u151, u152, u153, u154, u155, u156, u157, u158, u159, u160, u161, u162, u163, u164, u165, u166, u167, u168, u169, u170, u171, u172, u173, u174, u175, u176, u177, u178, u179, u180, u181, u182, u183, u184, u185, u186, u187, u188, u189, u190, u191, u192, u193, u194, u195, u196, u197, u198, u199, u200, u201, u202, u203, u204, u205, u206, u207, u208, u209, u210, u211, u212, u213, u214, u215, u216, u217, u218, u219, u220, u221, u222, u223, u224, u225, u226, u227, u228, u229, u230, u231, u232, u233, u234, u235, u236, u237, u238, u239, u240, u241, u242, u243, u244, u245, u246, u247, u248, u249, u250, u251, u252, u253, u254, u255, u256, u257, u258, u259, u260, u261, u262, u263, u264, u265, u266, u267, u268, u269, u270, u271, u272, u273, u274, u275, u276, u277, u278, u279, u280, u281, u282, u283, u284, u285, u286, u287, u288, u289, u290, u291, u292, u293, u294, u295, u296, u297, u298, u299, u300, u301, u302, u303, u304, u305, u306, u307, u308, u309, u310, u311, u312, u313, u314, u315, u316, u317, u318, u319, u320, u321, u322, u323, u324, u325, u326, u327, u328, u329, u330, u331, u332, u333, u334, u335, u336, u337, u338, u339], []⟩ wr := by
  conv => arg 2; whnf
  have HM := Lib.hid hM
  have HML := Lib.hid hml
  have HB := Lib.hid hB
  have HBC := Lib.hid hbc
  have HSUM := Lib.hid hsum
  have HL := Lib.hid hL
  have HLE := Lib.hid hle
  have HK := Lib.hid hK
  have HQ4 := Lib.hid hQ4
  have HK4 := Lib.hid hK4
  have HRET := Lib.hid hret
  have HY := Lib.hid hy
  clear hM hml hB hbc hsum hL hle hK hQ4 hK4 hret hy
  go_wp2_with fail
  obtain ⟨wo1, rfl⟩ : ∃ wo1 : World, wo1 = wr := ⟨_, rfl⟩
  go_loopw [7, 9, 13] (RelZ2 wo1 m k b1 c1) (fun v7 _ _ _ => (intOf v7).toNat)
  case atStart => exact ⟨0, by omega, by simp, by simp, by simp, by simp [Nat.mod_one], rfl⟩
  case round =>
    obtain ⟨t, ht, rfl, rfl, rfl, ho, rfl⟩ := hrel
    obtain ⟨b2, hb2⟩ : ∃ b2, b1 / 4 ^ t = b2 := ⟨_, rfl⟩
    rw [hb2]
    have hb32 : b2 < 4294967296 := by rw [← hb2]; exact Nat.lt_of_le_of_lt (Nat.div_le_self _ _) HB.out.1
    have hm3 := and_u32 b2 2 hb32 (by omega) 3 (by decide)
    have HO := Lib.hid ho
    have HT := Lib.hid ht
    have HB2 := Lib.hid hb2
    clear ho hb2
    obtain ⟨c2, hc2⟩ : ∃ c2, c1 + 2 * t = c2 := ⟨_, rfl⟩
    obtain ⟨z2, hz2⟩ : ∃ z2, m + k + 3 * t = z2 := ⟨_, rfl⟩
    rw [hc2, hz2]
    have hcc2 : c2 < 100100 := by omega
    have hzz2 : z2 + 3 < 65536 := by omega
    have HC2 := Lib.hid hc2
    have HZ2 := Lib.hid hz2
    clear hc2 hz2
    by_cases h3 : b2 % 2 ^ 2 = 3
    -- (B
    · rw [h3] at hm3
      have H3 := Lib.hid h3
      clear h3 ht
      go_wp2_with fail
      have h3 : b1 / 4 ^ t % 4 = 3 := by rw [HB2.out]; exact H3.out
      have hn := ones_next b1 t HO.out h3
      have ht := HT.out
      have ht7 : t ≠ 7 := by
        intro e
        subst e
        exact HY.out hn
      refine ⟨⟨t + 1, by omega, ?_, ?_, ?_, hn, rfl⟩, ?_⟩
      · exact congrArg (Value.int .u32) (by rw [Nat.pow_succ, ← Nat.div_div_eq_div_mul, HB2.out]; simp)
      · exact congrArg (Value.int .u64) (by have := HC2.out; omega)
      · exact congrArg (Value.int .u16) (by have := HZ2.out; omega)
      · simp only [intOf]
        have := H3.out
        omega
    -- )B
    · obtain ⟨v, hv⟩ : ∃ v, b2 % 2 ^ 2 = v := ⟨_, rfl⟩
      rw [hv] at hm3 h3
      have hv3 : v < 3 := by omega
      have hvb : ((v : Int) == 3) = false := beq_eq_false_iff_ne.2 (by omega)
      have HV := Lib.hid hv
      clear hv h3
      obtain ⟨K, hK⟩ : ∃ K, k + 3 * t + v = K := ⟨_, rfl⟩
      have hKz : (z2 : Int) + (v : Int) = ((m + K : Nat) : Int) := by have := HZ2.out; omega
      obtain ⟨mk, hmk⟩ : ∃ mk, m + K = mk := ⟨_, rfl⟩
      rw [hmk] at hKz
      have hmk65 : mk < 65536 := by omega
      have HK2 := Lib.hid hK
      have HMK := Lib.hid hmk
      clear hK hmk
      have hend : ∀ R, TopR l R → Ck l (8 * o1 + (c2 + 2)) left (out ++ List.replicate K 0) R ∧ (255 < mk → LostR l R) := fun R hR => by
        have h4 : o1 + 4 ≤ l.length := by rw [E.hnl]; exact hoff
        have h1 := Zk.threes h4 t (by have := HT.out; omega) (HL.out R hR) HB.out HO.out
        rw [HB2.out, List.append_assoc, List.replicate_append_replicate, show 8 * o1 + c1 + 2 * t = 8 * o1 + c2 by have := HC2.out; omega] at h1
        have h2 := h1.1.end_ h1.2 h4 (by omega) (by rw [show b2 % 4 = v from HV.out]; omega) (by rw [E.hnl]; by_cases h5 : o1 + 5 < n; (have := HBC.out h5; have := HT.out; have := HC2.out; right; omega); (left; omega))
        rw [show b2 % 4 = v from HV.out, List.append_assoc, List.replicate_append_replicate, HK2.out] at h2
        refine ⟨h2.1, fun h => h2.2 ?_⟩
        rw [List.length_append, List.length_replicate, HML.out, HMK.out]
        exact h
      have hbb : Bs l o1 (8 * o1 + (c2 + 2)) (b2 / 2 ^ 2) := by
        have h4 : o1 + 4 ≤ l.length := by rw [E.hnl]; exact hoff
        have h1 := (HB.out.shift (2 * t) (by have := HT.out; omega) h4).shift 2 (by omega) h4
        rw [Nat.pow_mul, show (2 : Nat) ^ 2 = 4 by rfl, HB2.out, show 8 * o1 + c1 + 2 * t + 2 = 8 * o1 + (c2 + 2) by have := HC2.out; omega] at h1
        exact h1
      have HEND := Lib.hid hend
      have HBB := Lib.hid hbb
      clear hend hbb
      obtain ⟨c3, hc3⟩ : ∃ c3, c2 + 2 = c3 := ⟨_, rfl⟩
      rw [hc3] at HEND HBB
      have hc3i : (c2 : Int) + 2 = (c3 : Int) := by omega
      have hc3lt : c3 < 100200 := by omega
      have HC3 := Lib.hid hc3
      clear hc3
      go_wp2_with fail
      refine HQ4.out _ _ (HK4.out _ _ ?_)
      conv => arg 2; whnf
      by_cases h255 : 255 < mk
      · have hd255 : decide ((255 : Int) < (mk : Int)) = true := decide_eq_true (by omega)
        have H255 := Lib.hid h255
        clear h255
        go_wp2_with fail
        refine (errorsNew_any _ _).mono ?_
        rintro e w5 he
        obtain ⟨⟨b, s, rfl, hc⟩, hon⟩ := errE_of he
        have HC := Lib.hid hc
        have HON := Lib.hid hon
        clear he hc hon
        go_wp2_with fail
        exact HRET.out _ _ ⟨rfl, rfl, b, s, rfl, HC.out, HM.out.only.trans (HON.out.mono (fun _ h => h.elim)), fun R hR => .inr (.inl ((HEND.out R hR).2 H255.out))⟩
      · have hd255 : decide ((255 : Int) < (mk : Int)) = false := decide_eq_false (by omega)
        have hmk256 : mk < 256 := by omega
        go_wp2_with fail
        rename_i K1 a1
        exact nc_z2 E v4 v8 v10 v11 v12 Q _ K1 _ _ _ _ _ _ _ _ _ _ _ _ _ _ _ _ _ _ _ _ _ _ _ _ _ _ _ _ _ _ _ _ _ _ _ _ _ _ _ _ _ _ _ _ _ _ _ _ _ _ _ _ _ _ _ _ _ _ _ _ _ _ _ _ _ _ _ _ _ _ _ _ _ _ _ _ _ _ _ _ _ _ _ _ _ _ _ _ _ _ _ _ _ _ _ _ _ _ _ _ _ _ _ _ _ _ _ _ _ _ _ _ _ _ _ _ _ _ _ _ _ _ _ _ _ _ _ _ _ _ _ _ _ _ _ _ _ _ _ _ _ _ _ _ _ _ _ _ _ _ _ _ _ _ _ _ _ _ _ _ _ _ _ _ _ _ _ _ _ _ _ _ _ _ _ _ _ _ _ _ _ _ _ _ _ _ _ _ _ _ _ _ _ _ _ _ _ _ _ _ _ _ _ _ _ _ _ _ _ _ _ _ _ _ _ _ _ _ _ _ _ _ _ _ _ _ _ _ _ _ _ _ _ _ _ _ _ _ _ _ _ _ _ _ _ _ _ _ _ _ _ _ _ _ _ _ _ _ _ _ _ _ _ _ _ _ _ _ _ _ _ _ _ _ _ _ _ _ _ _ _ _ _ _ _ _ _ _ _ _ _ _ _ _ _ _ _ _ _ _ _ _ _ _ _ _ _ _ _ _ _ _ _ _ _ _ _ _ _ _ _ _ _ _ _ _ _ _ (fun _ _ h => h) a1 HM.out HML.out HMK.out hmk256 hoff (fun h => by have := HBC.out h; have := HT.out; have := HC2.out; have := HC3.out; omega) hc3lt (by have := HT.out; have := HC2.out; have := HC3.out; omega) HBB.out HLE.out HSUM.out (fun R hR => (HEND.out R hR).1) HK.out
end Go.Proofs.YthkklojjpgjiiaaFmt
namespace Go.Proofs.YthkklojjpgjiiaaFmt
open Go.RowKit Go.Extern.Stop Go.Stop Go.Extern

set_option maxRecDepth 100000 in
set_option maxHeartbeats 6400000 in
theorem nc_zt {F : Interp} {w : World} {D : Nat} {A : Option Addr} {n c x : Nat} {l : List UInt8} {f1 : Nat → Value} (E : NcE F w D A n c x l f1) {off bs bc m left : Nat} {out : List Int} {wr : World} (v8 v10 v11 v12 : Value) (Q : Exit → Act → World → Prop)
    (u1 u2 u13 u14 u15 u16 u17 u18 u19 u20 u21 u22 u23 u24 u25 u26 u27 u28 u29 u30 u31 u32 u33 u34 u35 u36 u37 u38 u39 u40 u41 u42 u43 u44 u45 u46 u47 u48 u49 u50 u51 u52 u54 u55 u56 u57 u58 u59 u60 u61 u62 u63 u64 u65 u66 u67 u68 u69 u70 u71 u72 u73 u74 u75 u76 u77 u78 u79 u80 u81 u82 u83 u84 u85 u86 u87 u88 u89 u90 u91 u92 u93 u94 u95 u96 u97 u98 u99 u100 u101 u102 u103 u104 u105 u106 u107 u108 u109 u110 u111 u112 u113 u114 u115 u116 u117 u118 u119 u120 u121 u122 u123 u124 u125 u126 u127 u128 u129 u130 u131 u132 u133 u134 u135 u136 u137 u138 u139 u140 u141 u142 u143 u144 u145 u146 u147 u148 u149 u150 u151 u152 u153 u154 u155 u156 u157 u158 u159 u160 u161 u162 u163 u164 u165 u166 u167 u168 u169 u170 u171 u172 u173 u174 u175 u176 u177 u178 u179 u180 u181 u182 u183 u184 u185 u186 u187 u188 u189 u190 u191 u192 u193 u194 u195 u196 u197 u198 u199 u200 u201 u202 u203 u204 u205 u206 u207 u208 u209 u210 u211 u212 u213 u214 u215 u216 u217 u218 u219 u220 u221 u222 u223 u224 u225 u226 u227 u228 u229 u230 u231 u232 u233 u234 u235 u236 u237 u238 u239 u240 u241 u242 u243 u244 u245 u246 u247 u248 u249 u250 u251 u252 u253 u254 u255 u256 u257 u258 u259 u260 u261 u262 u263 u264 u265 u266 u267 u268 u269 u270 u271 u272 u273 u274 u275 u276 u277 u278 u279 u280 u281 u282 u283 u284 u285 u286 u287 u288 u289 u290 u291 u292 u293 u294 u295 u296 u297 u298 u299 u300 u301 u302 u303 u304 u305 u306 u307 u308 u309 u310 u311 u312 u313 u314 u315 u316 u317 u318 u319 u320 u321 u322 u323 u324 u325 u326 u327 u328 u329 u330 u331 u332 u333 u334 u335 u336 u337 u338 u339 : Value)
    (hl0 : left ≠ 0) (hM : NcM w D f1 off out wr) (hml : out.length = m) (hm321 : m ≤ 321) (hoff : off + 4 ≤ n) (hbc : off + 4 < n → bc ≤ 7) (hB : Bs l off (8 * off + bc) bs)
    (hbm : bc ≤ 100 * m + 40) (hle : Least out) (hsum : sumA out + left = 2 ^ (x + 5)) (hL : ∀ R, TopR l R → Zk l (8 * off + bc) left out R)
    (hret : ∀ F w', NcBad w D l F w' → Q .ret F w')
    (hK : ∀ F w', NcA w D n (x + 5) left m l f1 (.bool true) v8 v10 v11 v12 F w' → Q .normal F w') :
    Code.wp Tryf.prog (cR ncZ) Q ⟨#[.pointer (some ⟨D, 0, none⟩), u1, u2, .int .u16 (m : Nat), .bool true, .pointer (some ⟨D, 512, none⟩), .int .i64 (n : Nat), .int .u32 (bs : Nat), v8, .int .u64 (bc : Nat), v10, v11, v12, u13, u14, u15, u16, u17, u18, u19, u20, u21, u22, u23, u24, u25, u26, u27, u28, u29, u30, u31, u32, u33, u34, u35, u36, u37, u38, u39, u40, u41, u42, u43, u44, u45, u46, u47, u48, u49, u50, u51, u52, .bool true, u54, u55, u56, u57, u58, u59, u60, u61, u62, u63, u64, u65, u66, u67, u68, u69, u70, u71, u72, u73, u74, u75, u76, u77, u78, u79, u80, u81, u82, u83, u84, u85, u86, u87, u88, u89, u90, u91, u92, u93, u94, u95, u96, u97, u98, u99, u100, u101, u102, u103, u104, u105, u106, u107, u108, u109, u110, u111, u112, u113, u114, u115, u116, u117, u118, u119, u120, u121, u122, u123, u124, u125, u126, u127, u128, u129, u130, u131, u132, u133, u134, u135, u136, u137, u138, u139, u140, u141, u142, u143, u144, u145, u146, u147, u148, u149, u150, u151, u152, u153, u154, u155, u156, u157, u158, u159, u160, u161, u162, u163, u164, u165, u166, u167, u168, u169, u170, u171, u172, u173, u174, u175, u176, u177, u178, u179, u180, u181, u182, u183, u184, u185, u186, u187, u188, u189, u190, u191, u192, u193, u194, u195, u196, u197, u198, u199, u200, u201, u202, u203, u204, u205, u206, u207, u208, u209, u210, u211, u212, u213, u214, u215, u216, u217, u218, u219, u220, u221, u222, u223, u224, u225, u226, u227, u228, u229, u230, u231, u232, u233, u234, u235, u236, u237, u238, u239, u240, u241, u242, u243, u244, u245, u246, u247, u248, u249, u250, u251, u252, u253, u254, u255, u256, u257, u258, u259, u260, u261, u262, u263, u264, u265, u266, u267, u268, u269, u270, u271, u272, u273, u274, u275, u276, u277, u278, u279, u280, u281, u282, u283, u284, u285, u286, u287, u288, u289, u290, u291, u292, u293, u294, u295, u296, u297, u298, u299, u300, u301, u302, u303, u304, u305, u306, u307, u308, u309, u310, u311, u312, u313, u314, u315, u316, u317, u318, u319, u320, u321, u322, u323, u324, u325, u326, u327, u328, u329, u330, u331, u332, u333, u334, u335, u336, u337, u338, u339], []⟩ wr := by
  conv => arg 2; whnf
  have HM := Lib.hid hM
  have HML := Lib.hid hml
  have HB := Lib.hid hB
  have HBC := Lib.hid hbc
  have HBM := Lib.hid hbm
  have HSUM := Lib.hid hsum
  have HL := Lib.hid hL
  have HLE := Lib.hid hle
  have HK := Lib.hid hK
  have HRET := Lib.hid hret
  clear hM hml hB hbc hbm hsum hL hle hK hret
  go_wp2_with fail
  obtain ⟨wo, rfl⟩ : ∃ wo : World, wo = wr := ⟨_, rfl⟩
  go_loopw [7, 9, 13] (RelZ1 w D n left m l f1 out) (fun v7 _ _ wq => (200 - offOf D 512 wq) * 8589934592 + (intOf v7).toNat)
  case atStart =>
    refine ⟨0, bs, bc, off, rfl, rfl, rfl, HM.out, hoff, fun h => HBC.out (by omega), HB.out, by omega, ?_, fun R hR => by have := HL.out R hR; simpa using this⟩
    have := HBM.out
    split
    · omega
    · split <;> omega
  case round =>
    obtain ⟨k, b1, c1, o1, rfl, rfl, rfl, hM, hoff, hbc, hB, hk, hbm, hL⟩ := hrel
    have HM1 := Lib.hid hM
    have HOFF1 := Lib.hid hoff
    have HBC1 := Lib.hid hbc
    have HB1 := Lib.hid hB
    have HK1 := Lib.hid hk
    have HBM1 := Lib.hid hbm
    have HL1 := Lib.hid hL
    have hb32 : b1 < 4294967296 := hB.1
    have hz : m + k + 24 < 65536 := by
      have := hm321
      have := E.hn
      have h5 : c1 ≤ 100 * m + 72 := by omega
      omega
    have hc64 : c1 < 100000 := by
      have := hm321
      omega
    clear hM hoff hbc hB hk hbm hL
    by_cases hy : b1 % 2 ^ 16 = 65535
    -- (A
    · have hm16 := and_u32 b1 16 hb32 (by omega) 65535 (by decide)
      rw [hy] at hm16
      obtain ⟨q0, q1, qf, qs⟩ := HM1.out.cells
      by_cases ho5 : o1 + 5 < n
      · have d5 : (o1 : Int) < wrap64 ((n : Int) - 5) := by have := E.hn; unfold wrap64; omega
        have HO5 := Lib.hid ho5
        have HY := Lib.hid hy
        clear ho5 hy
        go_wp2_with fail
        refine (HM1.out.adv 2 (by omega) (by have := HO5.out; have := E.hn; omega) 2 rfl).mono ?_
        rintro e wa ⟨rfl, hMa⟩
        obtain ⟨X, hX, hX32, KUa⟩ := hMa.u32 E.hs E.hDw (by have := HO5.out; omega) E.hn
        have KU0 := Lib.hid (KUa 0)
        obtain ⟨q0, q1, qf, qs⟩ := hMa.cells
        rw [E.h512] at q0
        have HXX := Lib.hid hX
        clear KUa hX hMa
        go_wp2_with fail
        refine KU0.out.mono ?_
        rintro e wb ⟨rfl, hMb⟩
        have HMb := Lib.hid hMb
        clear hMb q0 q1 qf qs
        go_wp2_with fail
        have hc7 : c1 ≤ 7 := HBC1.out HO5.out
        have ho5 := HO5.out
        have hb := Bs.load l (o1 + 2) c1 (by rw [E.hnl]; omega) (fun _ => by omega)
        rw [HXX.out] at hb
        refine ⟨⟨k + 24, X / 2 ^ (c1 % 32), c1, o1 + 2, ?_, rfl, ?_, HMb.out, by omega, fun _ => hc7, hb, by have := HK1.out; omega, ?_, fun R hR => ?_⟩, ?_⟩
        · exact congrArg (Value.int .u32) (by rw [Nat.min_eq_left (by omega), Nat.mod_eq_of_lt (show c1 < 32 by omega)]; simp)
        · exact congrArg (Value.int .u16) (by omega)
        · split
          · omega
          · split <;> omega
        · have h8 : b1 % 4 ^ 8 = 4 ^ 8 - 1 := HY.out
          have := (Zk.threes (by rw [E.hnl]; exact HOFF1.out) 8 (Nat.le_refl _) (HL1.out R hR) HB1.out h8).1
          rw [List.append_assoc, List.replicate_append_replicate] at this
          rw [show 8 * (o1 + 2) + c1 = 8 * o1 + c1 + 2 * 8 by omega]
          exact this
        · rw [HMb.out.offOf, HM1.out.offOf, Nat.min_eq_left (by omega)]
          have h1 := hb.1
          rw [Nat.mod_eq_of_lt (show c1 < 32 by omega)] at h1
          simp only [intOf]
          rw [show ((X : Int) / 2 ^ c1).toNat = X / 2 ^ c1 by rw [show (X : Int) / 2 ^ c1 = ((X / 2 ^ c1 : Nat) : Int) by simp]; rfl]
          have := E.hn
          omega
      · have d5 : wrap64 ((n : Int) - 5) ≤ (o1 : Int) := by have := E.hn; unfold wrap64; omega
        have HO5 := Lib.hid ho5
        have HY := Lib.hid hy
        clear ho5 hy
        go_wp2_with fail
        have hy := HY.out
        have hb := HB1.out
        have h8 : b1 % 4 ^ 8 = 4 ^ 8 - 1 := hy
        have hoff := HOFF1.out
        refine ⟨⟨k + 24, b1 / 4 ^ 8, c1 + 16, o1, ?_, ?_, ?_, HM1.out, hoff, fun h => absurd h HO5.out, ?_, ?_, ?_, fun R hR => ?_⟩, ?_⟩
        · exact congrArg (Value.int .u32) (by simp)
        · exact congrArg (Value.int .u64) (by simp)
        · exact congrArg (Value.int .u16) (by omega)
        · exact hb.shift 16 (by omega) (by rw [E.hnl]; exact hoff)
        · have := HK1.out; omega
        · have := HBM1.out
          have h3 : 65535 ≤ b1 := by omega
          split at this <;> split <;> (try split) <;> (try split at this) <;> omega
        · have := (Zk.threes (by rw [E.hnl]; exact hoff) 8 (Nat.le_refl _) (HL1.out R hR) hb h8).1
          rw [List.append_assoc, List.replicate_append_replicate] at this
          exact this
        · simp only [intOf]
          have h3 : 65535 ≤ b1 := by omega
          omega
    · have hm16 := and_u32 b1 16 hb32 (by omega) 65535 (by decide)
      obtain ⟨y, hy2⟩ : ∃ y, b1 % 2 ^ 16 = y := ⟨_, rfl⟩
      rw [hy2] at hm16
      have hyb : ((y : Int) == 65535) = false := beq_eq_false_iff_ne.2 (by omega)
      have HY := Lib.hid hy
      clear hy hy2
      go_wp2_with fail
      rename_i K1 a1
      exact nc_z1b E (.bool true) v8 v10 v11 v12 Q _ K1 _ _ _ _ _ _ _ _ _ _ _ _ _ _ _ _ _ _ _ _ _ _ _ _ _ _ _ _ _ _ _ _ _ _ _ _ _ _ _ _ _ _ _ _ _ _ _ _ _ _ _ _ _ _ _ _ _ _ _ _ _ _ _ _ _ _ _ _ _ _ _ _ _ _ _ _ _ _ _ _ _ _ _ _ _ _ _ _ _ _ _ _ _ _ _ _ _ _ _ _ _ _ _ _ _ _ _ _ _ _ _ _ _ _ _ _ _ _ _ _ _ _ _ _ _ _ _ _ _ _ _ _ _ _ _ _ _ _ _ _ _ _ _ _ _ _ _ _ _ _ _ _ _ _ _ _ _ _ _ _ _ _ _ _ _ _ _ _ _ _ _ _ _ _ _ _ _ _ _ _ _ _ _ _ _ _ _ _ _ _ _ _ _ _ _ _ _ _ _ _ _ _ _ _ _ _ _ _ _ _ _ _ _ _ _ _ _ _ _ _ _ _ _ _ _ _ _ _ _ _ _ _ _ _ _ _ _ _ _ _ _ _ _ _ _ _ _ _ _ _ _ _ _ _ _ _ _ _ _ _ _ _ _ _ _ _ _ _ _ _ _ _ _ _ _ _ _ _ _ _ _ _ _ _ _ _ _ _ _ _ _ _ _ _ _ _ _ _ _ _ _ _ _ _ _ _ _ _ _ _ _ _ _ _ _ _ _ _ _ _ _ _ _ _ _ _ _ _ (fun _ _ h => h) a1 hl0 HM1.out HML.out hm321 HOFF1.out HBC1.out HB1.out (by omega) hc64 (by have := HBM1.out; omega) HY.out HLE.out HSUM.out HL1.out HRET.out HK.out

set_option maxRecDepth 100000 in
set_option maxHeartbeats 6400000 in
theorem nc_zf {w : World} {D n x : Nat} {l : List UInt8} {f1 : Nat → Value} {off bs bc m left : Nat} {out : List Int} {wr : World} (v8 v10 v11 v12 : Value) (Q : Exit → Act → World → Prop)
    (u1 u2 u13 u14 u15 u16 u17 u18 u19 u20 u21 u22 u23 u24 u25 u26 u27 u28 u29 u30 u31 u32 u33 u34 u35 u36 u37 u38 u39 u40 u41 u42 u43 u44 u45 u46 u47 u48 u49 u50 u51 u52 u54 u55 u56 u57 u58 u59 u60 u61 u62 u63 u64 u65 u66 u67 u68 u69 u70 u71 u72 u73 u74 u75 u76 u77 u78 u79 u80 u81 u82 u83 u84 u85 u86 u87 u88 u89 u90 u91 u92 u93 u94 u95 u96 u97 u98 u99 u100 u101 u102 u103 u104 u105 u106 u107 u108 u109 u110 u111 u112 u113 u114 u115 u116 u117 u118 u119 u120 u121 u122 u123 u124 u125 u126 u127 u128 u129 u130 u131 u132 u133 u134 u135 u136 u137 u138 u139 u140 u141 u142 u143 u144 u145 u146 u147 u148 u149 u150 u151 u152 u153 u154 u155 u156 u157 u158 u159 u160 u161 u162 u163 u164 u165 u166 u167 u168 u169 u170 u171 u172 u173 u174 u175 u176 u177 u178 u179 u180 u181 u182 u183 u184 u185 u186 u187 u188 u189 u190 u191 u192 u193 u194 u195 u196 u197 u198 u199 u200 u201 u202 u203 u204 u205 u206 u207 u208 u209 u210 u211 u212 u213 u214 u215 u216 u217 u218 u219 u220 u221 u222 u223 u224 u225 u226 u227 u228 u229 u230 u231 u232 u233 u234 u235 u236 u237 u238 u239 u240 u241 u242 u243 u244 u245 u246 u247 u248 u249 u250 u251 u252 u253 u254 u255 u256 u257 u258 u259 u260 u261 u262 u263 u264 u265 u266 u267 u268 u269 u270 u271 u272 u273 u274 u275 u276 u277 u278 u279 u280 u281 u282 u283 u284 u285 u286 u287 u288 u289 u290 u291 u292 u293 u294 u295 u296 u297 u298 u299 u300 u301 u302 u303 u304 u305 u306 u307 u308 u309 u310 u311 u312 u313 u314 u315 u316 u317 u318 u319 u320 u321 u322 u323 u324 u325 u326 u327 u328 u329 u330 u331 u332 u333 u334 u335 u336 u337 u338 u339 : Value)
    (hM : NcM w D f1 off out wr) (hml : out.length = m) (hm : m + left ≤ 320) (hoff : off + 4 ≤ n) (hbc : off + 4 < n → bc ≤ 7) (hB : Bs l off (8 * off + bc) bs)
    (hbm : bc ≤ 100 * m + 40) (hle : Least out) (hsum : sumA out + left = 2 ^ (x + 5)) (hL : ∀ R, TopR l R → Ck l (8 * off + bc) left out R)
    (hK : ∀ F w', NcA w D n (x + 5) left m l f1 (.bool false) v8 v10 v11 v12 F w' → Q .normal F w') :
    Code.wp Tryf.prog (cR ncZ) Q ⟨#[.pointer (some ⟨D, 0, none⟩), u1, u2, .int .u16 (m : Nat), .bool false, .pointer (some ⟨D, 512, none⟩), .int .i64 (n : Nat), .int .u32 (bs : Nat), v8, .int .u64 (bc : Nat), v10, v11, v12, u13, u14, u15, u16, u17, u18, u19, u20, u21, u22, u23, u24, u25, u26, u27, u28, u29, u30, u31, u32, u33, u34, u35, u36, u37, u38, u39, u40, u41, u42, u43, u44, u45, u46, u47, u48, u49, u50, u51, u52, .bool false, u54, u55, u56, u57, u58, u59, u60, u61, u62, u63, u64, u65, u66, u67, u68, u69, u70, u71, u72, u73, u74, u75, u76, u77, u78, u79, u80, u81, u82, u83, u84, u85, u86, u87, u88, u89, u90, u91, u92, u93, u94, u95, u96, u97, u98, u99, u100, u101, u102, u103, u104, u105, u106, u107, u108, u109, u110, u111, u112, u113, u114, u115, u116, u117, u118, u119, u120, u121, u122, u123, u124, u125, u126, u127, u128, u129, u130, u131, u132, u133, u134, u135, u136, u137, u138, u139, u140, u141, u142, u143, u144, u145, u146, u147, u148, u149, u150, u151, u152, u153, u154, u155, u156, u157, u158, u159, u160, u161, u162, u163, u164, u165, u166, u167, u168, u169, u170, u171, u172, u173, u174, u175, u176, u177, u178, u179, u180, u181, u182, u183, u184, u185, u186, u187, u188, u189, u190, u191, u192, u193, u194, u195, u196, u197, u198, u199, u200, u201, u202, u203, u204, u205, u206, u207, u208, u209, u210, u211, u212, u213, u214, u215, u216, u217, u218, u219, u220, u221, u222, u223, u224, u225, u226, u227, u228, u229, u230, u231, u232, u233, u234, u235, u236, u237, u238, u239, u240, u241, u242, u243, u244, u245, u246, u247, u248, u249, u250, u251, u252, u253, u254, u255, u256, u257, u258, u259, u260, u261, u262, u263, u264, u265, u266, u267, u268, u269, u270, u271, u272, u273, u274, u275, u276, u277, u278, u279, u280, u281, u282, u283, u284, u285, u286, u287, u288, u289, u290, u291, u292, u293, u294, u295, u296, u297, u298, u299, u300, u301, u302, u303, u304, u305, u306, u307, u308, u309, u310, u311, u312, u313, u314, u315, u316, u317, u318, u319, u320, u321, u322, u323, u324, u325, u326, u327, u328, u329, u330, u331, u332, u333, u334, u335, u336, u337, u338, u339], []⟩ wr := by
  conv => arg 2; whnf
  go_wp2_with fail
  exact ⟨_, _, _, ⟨rfl, rfl, rfl, rfl, rfl, rfl, rfl, rfl, rfl, rfl, rfl, rfl, rfl⟩, ⟨m, bs, bc, off, out, rfl, rfl, rfl, hM, hml, hoff, fun h => hbc (by omega), hB, hm, by omega, hle, hsum, hL⟩, Nat.le_refl _⟩
end Go.Proofs.YthkklojjpgjiiaaFmt
