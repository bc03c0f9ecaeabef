/-
  fse.readNCount: the end of a round: the window moves on. Conditions: those of the theorem.
  fse.readNCount: a chance is laid. Conditions: those of the theorem.
  fse.readNCount: a chance is read. Conditions: those of the theorem.
-/
import Derived.Test.YthkklojjpgjiiaaFmtHuffT09
namespace Go.Proofs.YthkklojjpgjiiaaFmt
open Go.RowKit Go.Extern.Stop Go.Stop Go.Extern

set_option maxRecDepth 100000 in
set_option maxHeartbeats 6400000 in
theorem nc_t4 {F : Interp} {w : World} {D : Nat} {A : Option Addr} {n c x : Nat} {l : List UInt8} {f1 : Nat → Value} (E : NcE F w D A n c x l f1) {off1 bc2 : Nat} {out : List Int} {wr : World} (v3 v4 v8 v10 v11 v12 : Value) (Q : Exit → Act → World → Prop)
    (u1 u2 u7 u13 u14 u15 u16 u17 u18 u19 u20 u21 u22 u23 u24 u25 u26 u27 u28 u29 u30 u31 u32 u33 u34 u35 u36 u37 u38 u39 u40 u41 u42 u43 u44 u45 u46 u47 u48 u49 u50 u51 u52 u53 u54 u55 u56 u57 u58 u59 u60 u61 u62 u63 u64 u65 u66 u67 u68 u69 u70 u71 u72 u73 u74 u75 u76 u77 u78 u79 u80 u81 u82 u83 u84 u85 u86 u87 u88 u89 u90 u91 u92 u93 u94 u95 u96 u97 u98 u99 u100 u101 u102 u103 u104 u105 u106 u107 u108 u109 u110 u111 u112 u113 u114 u115 u116 u117 u118 u119 u120 u121 u122 u123 u124 u125 u126 u127 u128 u129 u130 u131 u132 u133 u134 u135 u136 u137 u138 u139 u140 u141 u142 u143 u144 u145 u146 u147 u148 u149 u150 u151 u152 u153 u154 u155 u156 u157 u158 u159 u160 u161 u162 u163 u164 u165 u166 u167 u168 u169 u170 u171 u172 u173 u174 u175 u176 u177 u178 u179 u180 u181 u182 u183 u184 u185 u186 u187 u188 u189 u190 u191 u192 u193 u194 u195 u196 u197 u198 u199 u200 u201 u202 u203 u204 u205 u206 u207 u208 u209 u210 u211 u212 u213 u214 u215 u216 u217 u218 u219 u220 u221 u222 u223 u224 u225 u226 u227 u228 u229 u230 u231 u232 u233 u234 u235 u236 u237 u238 u239 u240 u241 u242 u243 u244 u245 u246 u247 u248 u249 u250 u251 u252 u253 u254 u255 u256 u257 u258 u259 u260 u261 u262 u263 u264 u265 u266 u267 u268 u269 u270 u271 u272 u273 u274 u275 u276 u277 u278 u279 u280 u281 u282 u283 u284 u285 u286 u287 u288 u289 u290 u291 u292 u293 u294 u295 u296 u297 u298 u299 u300 u301 u302 u303 u304 u305 u306 u307 u308 u309 u310 u311 u312 u313 u314 u315 u316 u317 u318 u319 u320 u321 u322 u323 u324 u325 u326 u327 u328 u329 u330 u331 u332 u333 u334 u335 u336 u337 u338 u339 : Value)
    (hM : NcM w D f1 off1 out wr) (hoff : off1 + 4 ≤ n) (h23 : off1 + 5 < n → bc2 ≤ 23) (hbc : bc2 < 50000)
    (hK : ∀ F w', NcMove w D n l f1 out (8 * off1 + bc2) v3 v4 v8 v10 v11 v12 F w' → Q .normal F w') :
    Code.wp Tryf.prog ncT4 Q ⟨#[.pointer (some ⟨D, 0, none⟩), u1, u2, v3, v4, .pointer (some ⟨D, 512, none⟩), .int .i64 (n : Nat), u7, v8, .int .u64 (bc2 : Nat), v10, v11, v12, u13, u14, u15, u16, u17, u18, u19, u20, u21, u22, u23, u24, u25, u26, u27, u28, u29, u30, u31, u32, u33, u34, u35, u36, u37, u38, u39, u40, u41, u42, u43, u44, u45, u46, u47, u48, u49, u50, u51, u52, u53, u54, u55, u56, u57, u58, u59, u60, u61, u62, u63, u64, u65, u66, u67, u68, u69, u70, u71, u72, u73, u74, u75, u76, u77, u78, u79, u80, u81, u82, u83, u84, u85, u86, u87, u88, u89, u90, u91, u92, u93, u94, u95, u96, u97, u98, u99, u100, u101, u102, u103, u104, u105, u106, u107, u108, u109, u110, u111, u112, u113, u114, u115, u116, u117, u118, u119, u120, u121, u122, u123, u124, u125, u126, u127, u128, u129, u130, u131, u132, u133, u134, u135, u136, u137, u138, u139, u140, u141, u142, u143, u144, u145, u146, u147, u148, u149, u150, u151, u152, u153, u154, u155, u156, u157, u158, u159, u160, u161, u162, u163, u164, u165, u166, u167, u168, u169, u170, u171, u172, u173, u174, u175, u176, u177, u178, u179, u180, u181, u182, u183, u184, u185, u186, u187, u188, u189, u190, u191, u192, u193, u194, u195, u196, u197, u198, u199, u200, u201, u202, u203, u204, u205, u206, u207, u208, u209, u210, u211, u212, u213, u214, u215, u216, u217, u218, u219, u220, u221, u222, u223, u224, u225, u226, u227, u228, u229, u230, u231, u232, u233, u234, u235, u236, u237, u238, u239, u240, u241, u242, u243, u244, u245, u246, u247, u248, u249, u250, u251, u252, u253, u254, u255, u256, u257, u258, u259, u260, u261, u262, u263, u264, u265, u266, u267, u268, u269, u270, u271, u272, u273, u274, u275, u276, u277, u278, u279, u280, u281, u282, u283, u284, u285, u286, u287, u288, u289, u290, u291, u292, u293, u294, u295, u296, u297, u298, u299, u300, u301, u302, u303, u304, u305, u306, u307, u308, u309, u310, u311, u312, u313, u314, u315, u316, u317, u318, u319, u320, u321, u322, u323, u324, u325, u326, u327, u328, u329, u330, u331, u332, u333, u334, u335, u336, u337, u338, u339], []⟩ wr := by
  conv => arg 2; whnf
  obtain ⟨q0, q1, qf, qs⟩ := hM.cells
  rw [E.h512] at q0
  obtain ⟨e8, he8⟩ : ∃ e8, bc2 / 8 = e8 := ⟨_, rfl⟩
  have he8i : (bc2 : Int) / 8 = (e8 : Int) := by omega
  have he8lt : e8 ≤ 20000 := by omega
  obtain ⟨c7, hc78⟩ : ∃ c7, bc2 % 2 ^ 3 = c7 := ⟨_, rfl⟩
  have hc7 : c7 ≤ 7 := by omega
  have hm7 := and_u64 bc2 3 (by omega) (by omega) 7 (by decide)
  rw [hc78] at hm7
  have HC7 := Lib.hid hc7
  have HC78 := Lib.hid hc78
  have HE8 := Lib.hid he8
  have H23 := Lib.hid h23
  clear hc78 he8 h23
  by_cases ho7 : off1 + 7 ≤ n
  · have d7 : (off1 : Int) ≤ wrap64 ((n : Int) - 7) := by unfold wrap64; have := E.hn; omega
    have HE4 : Hid (off1 + e8 + 4 ≤ n) := Lib.hid (by have := H23.out (by omega); have := HE8.out; omega)
    go_wp2_with fail
    refine (hM.adv e8 (by omega) (by have := E.hn; omega) (e8 : Nat) rfl).mono ?_
    rintro e wa ⟨rfl, hMa⟩
    obtain ⟨X, hX, hX32, KUa⟩ := hMa.u32 E.hs E.hDw HE4.out E.hn
    have KU0 := Lib.hid (KUa 0)
    obtain ⟨q0, q1, qf, qs⟩ := hMa.cells
    rw [E.h512] at q0
    have hm31 := and_u64 c7 5 (by omega) (by omega) 31 (by decide)
    rw [Nat.mod_eq_of_lt (show c7 < 2 ^ 5 by omega)] at hm31
    have HXX := Lib.hid hX
    clear KUa hX hMa
    go_wp2_with fail
    refine KU0.out.mono ?_
    rintro e wb ⟨rfl, hMb⟩
    have HMb := Lib.hid hMb
    clear hMb q0 q1 qf qs
    go_wp2_with fail
    refine ⟨off1 + e8, c7, ⟨rfl, rfl, rfl, rfl, rfl, rfl, rfl, ?_, rfl, rfl, rfl, rfl, rfl⟩, HMb.out, by have := HE8.out; have := HC78.out; omega, HE4.out, fun _ => HC7.out⟩
    rw [HXX.out, Nat.mod_eq_of_lt (show c7 < 32 by have := HC7.out; omega)]
    exact congrArg (Value.int .u32) (by simp)
  · have d7 : wrap64 ((n : Int) - 7) < (off1 : Int) := by unfold wrap64; have := E.hn; omega
    by_cases ho4 : off1 + e8 + 4 ≤ n
    · have d4 : wrap64 ((off1 : Int) + (e8 : Int)) ≤ wrap64 ((n : Int) - 4) := by unfold wrap64; have := E.hn; omega
      have HE4 : Hid (off1 + e8 + 4 ≤ n) := Lib.hid ho4
      go_wp2_with fail
      refine (hM.adv e8 (by omega) (by have := E.hn; omega) (e8 : Nat) rfl).mono ?_
      rintro e wa ⟨rfl, hMa⟩
      obtain ⟨X, hX, hX32, KUa⟩ := hMa.u32 E.hs E.hDw HE4.out E.hn
      have KU0 := Lib.hid (KUa 0)
      obtain ⟨q0, q1, qf, qs⟩ := hMa.cells
      rw [E.h512] at q0
      have hm31 := and_u64 c7 5 (by omega) (by omega) 31 (by decide)
      rw [Nat.mod_eq_of_lt (show c7 < 2 ^ 5 by omega)] at hm31
      have HXX := Lib.hid hX
      clear KUa hX hMa
      go_wp2_with fail
      refine KU0.out.mono ?_
      rintro e wb ⟨rfl, hMb⟩
      have HMb := Lib.hid hMb
      clear hMb q0 q1 qf qs
      go_wp2_with fail
      refine ⟨off1 + e8, c7, ⟨rfl, rfl, rfl, rfl, rfl, rfl, rfl, ?_, rfl, rfl, rfl, rfl, rfl⟩, HMb.out, by have := HE8.out; have := HC78.out; omega, HE4.out, fun _ => HC7.out⟩
      rw [HXX.out, Nat.mod_eq_of_lt (show c7 < 32 by have := HC7.out; omega)]
      exact congrArg (Value.int .u32) (by simp)
    · have d4 : wrap64 ((n : Int) - 4) < wrap64 ((off1 : Int) + (e8 : Int)) := by unfold wrap64; have := E.hn; omega
      have HO4 := Lib.hid ho4
      have HO7 := Lib.hid ho7
      have HOFF := Lib.hid hoff
      obtain ⟨b2, hb2⟩ : ∃ b2, bc2 - 8 * (n - 4 - off1) = b2 := ⟨_, rfl⟩
      obtain ⟨n4, hn4⟩ : ∃ n4, n - 4 = n4 := ⟨_, rfl⟩
      have h8 : 8 * (n - 4 - off1) ≤ bc2 := by have := HE8.out; omega
      have en4 : wrap64 ((n : Int) - 4) = (n4 : Int) := by unfold wrap64; have := E.hn; have := E.h4; omega
      have en5 : wrap64 (8 * wrap64 (wrap64 ((n : Int) - 4) - (off1 : Int))) = ((8 * (n - 4 - off1) : Nat) : Int) := by rw [en4]; unfold wrap64; have := E.hn; omega
      have HB2 := Lib.hid hb2
      have HN4 := Lib.hid hn4
      have H8 := Lib.hid h8
      have HEN4 := Lib.hid en4
      have HEN5 := Lib.hid en5
      clear ho4 ho7 hoff hb2 hn4 h8 en4 en5
      go_wp2_with fail
      go_quiet (fail)
      have en6 : IntKind.u64.wrap ((bc2 : Int) - IntKind.u64.wrap (wrap64 (8 * wrap64 (wrap64 ((n : Int) - 4) - (off1 : Int))))) = (b2 : Int) := by
        rw [HEN5.out, IntKind.wrap_u64, IntKind.wrap_u64]
        have := HB2.out
        have := H8.out
        omega
      rw [en6]
      clear en6
      have hMq := hM.drewN nq
      have HMQ := Lib.hid hMq
      obtain ⟨q0, q1, qf, qs⟩ := hMq.cells
      rw [E.h512] at q0
      clear hMq
      go_wp2_with fail
      have hMs := HMQ.out.setOff n4 _ HEN4.out
      rw [HEN4.out]
      rw [HEN4.out] at hMs
      obtain ⟨X, hX, hX32, KUa⟩ := hMs.u32 E.hs E.hDw (by have := HN4.out; have := E.h4; omega) E.hn
      have KU0 := Lib.hid (KUa 0)
      have HXX := Lib.hid hX
      have hb50 : b2 < 50000 := by have := HB2.out; omega
      have hm31 := and_u64 b2 5 (by omega) (by omega) 31 (by decide)
      obtain ⟨y, hy⟩ : ∃ y, b2 % 2 ^ 5 = y := ⟨_, rfl⟩
      rw [hy] at hm31
      have hy32 : y < 32 := by omega
      have HY := Lib.hid hy
      clear KUa hX hMs hy q0 q1 qf qs
      refine KU0.out.mono ?_
      rintro e wb ⟨rfl, hMb⟩
      have HMb := Lib.hid hMb
      clear hMb
      go_wp2_with fail
      have h1 := HB2.out
      have h2 := H8.out
      have h3 := HN4.out
      have h4 := E.h4
      have h5 := HOFF.out
      refine ⟨n4, b2, ⟨rfl, rfl, rfl, rfl, rfl, rfl, rfl, ?_, rfl, rfl, rfl, rfl, rfl⟩, HMb.out, by omega, by omega, fun h => by omega⟩
      rw [HXX.out, show b2 % 32 = y from HY.out]
      exact congrArg (Value.int .u32) (by simp)

set_option maxRecDepth 100000 in
set_option maxHeartbeats 6400000 in
theorem nc_t3 {F : Interp} {w : World} {D : Nat} {A : Option Addr} {n c x : Nat} {l : List UInt8} {f1 : Nat → Value} (E : NcE F w D A n c x l f1) {off1 bc2 left1 rm1 kk T : Nat} {out : List Int} {wr : World} (v3 v4 v12 : Value) (Q Q8 : Exit → Act → World → Prop) (K : Act → World → Prop)
    (u1 u2 u7 u13 u14 u15 u16 u17 u18 u19 u20 u21 u22 u23 u24 u25 u26 u27 u28 u29 u30 u31 u32 u33 u34 u35 u36 u37 u38 u39 u40 u41 u42 u43 u44 u45 u46 u47 u48 u49 u50 u51 u52 u53 u54 u55 u56 u57 u58 u59 u60 u61 u62 u63 u64 u65 u66 u67 u68 u69 u70 u71 u72 u73 u74 u75 u76 u77 u78 u79 u80 u81 u82 u83 u84 u85 u86 u87 u88 u89 u90 u91 u92 u93 u94 u95 u96 u97 u98 u99 u100 u101 u102 u103 u104 u105 u106 u107 u108 u109 u110 u111 u112 u113 u114 u115 u116 u117 u118 u119 u120 u121 u122 u123 u124 u125 u126 u127 u128 u129 u130 u131 u132 u133 u134 u135 u136 u137 u138 u139 u140 u141 u142 u143 u144 u145 u146 u147 u148 u149 u150 u151 u152 u153 u154 u155 u156 u157 u158 u159 u160 u161 u162 u163 u164 u165 u166 u167 u168 u169 u170 u171 u172 u173 u174 u175 u176 u177 u178 u179 u180 u181 u182 u183 u184 u185 u186 u187 u188 u189 u190 u191 u192 u193 u194 u195 u196 u197 u198 u199 u200 u201 u202 u203 u204 u205 u206 u207 u208 u209 u210 u211 u212 u213 u214 u215 u216 u217 u218 u219 u220 u221 u222 u223 u224 u225 u226 u227 u228 u229 u230 u231 u232 u233 u234 u235 u236 u237 u238 u239 u240 u241 u242 u243 u244 u245 u246 u247 u248 u249 u250 u251 u252 u253 u254 u255 u256 u257 u258 u259 u260 u261 u262 u263 u264 u265 u266 u267 u268 u269 u270 u271 u272 u273 u274 u275 u276 u277 u278 u279 u280 u281 u282 u283 u284 u285 u286 u287 u288 u289 u290 u291 u292 u293 u294 u295 u296 u297 u298 u299 u300 u301 u302 u303 u304 u305 u306 u307 u308 u309 u310 u311 u312 u313 u314 u315 u316 u317 u318 u319 u320 u321 u322 u323 u324 u325 u326 u327 u328 u329 u330 u331 u332 u333 u334 u335 u336 u337 u338 u339 : Value)
    (hQ8 : ∀ F w', K F w' → Q8 (.exit 8) F w') (hK4 : ∀ F w', Code.wp Tryf.prog ncT4 Q F w' → K F w') (hM : NcM w D f1 off1 out wr) (hoff : off1 + 4 ≤ n) (h23 : off1 + 5 < n → bc2 ≤ 23) (hbc : bc2 < 50000)
    (hrm : left1 + 1 = rm1) (hrm65 : rm1 ≤ 65) (hT : 2 ^ kk = T) (hk6 : kk ≤ 6) (hlk : (left1 + 1).log2 ≤ kk)
    (hK : ∀ F w', NcMove w D n l f1 out (8 * off1 + bc2) v3 v4 (.int .u64 (chB left1 : Nat)) (.int .i32 (rm1 : Nat)) (.int .i32 (chT left1 : Nat)) v12 F w' → Q .normal F w') :
    Code.wp Tryf.prog (cL (cL ncT3)) Q8 ⟨#[.pointer (some ⟨D, 0, none⟩), u1, u2, v3, v4, .pointer (some ⟨D, 512, none⟩), .int .i64 (n : Nat), u7, .int .u64 (kk + 1 : Nat), .int .u64 (bc2 : Nat), .int .i32 (rm1 : Nat), .int .i32 (T : Nat), v12, u13, u14, u15, u16, u17, u18, u19, u20, u21, u22, u23, u24, u25, u26, u27, u28, u29, u30, u31, u32, u33, u34, u35, u36, u37, u38, u39, u40, u41, u42, u43, u44, u45, u46, u47, u48, u49, u50, u51, u52, u53, u54, u55, u56, u57, u58, u59, u60, u61, u62, u63, u64, u65, u66, u67, u68, u69, u70, u71, u72, u73, u74, u75, u76, u77, u78, u79, u80, u81, u82, u83, u84, u85, u86, u87, u88, u89, u90, u91, u92, u93, u94, u95, u96, u97, u98, u99, u100, u101, u102, u103, u104, u105, u106, u107, u108, u109, u110, u111, u112, u113, u114, u115, u116, u117, u118, u119, u120, u121, u122, u123, u124, u125, u126, u127, u128, u129, u130, u131, u132, u133, u134, u135, u136, u137, u138, u139, u140, u141, u142, u143, u144, u145, u146, u147, u148, u149, u150, u151, u152, u153, u154, u155, u156, u157, u158, u159, u160, u161, u162, u163, u164, u165, u166, u167, u168, u169, u170, u171, u172, u173, u174, u175, u176, u177, u178, u179, u180, u181, u182, u183, u184, u185, u186, u187, u188, u189, u190, u191, u192, u193, u194, u195, u196, u197, u198, u199, u200, u201, u202, u203, u204, u205, u206, u207, u208, u209, u210, u211, u212, u213, u214, u215, u216, u217, u218, u219, u220, u221, u222, u223, u224, u225, u226, u227, u228, u229, u230, u231, u232, u233, u234, u235, u236, u237, u238, u239, u240, u241, u242, u243, u244, u245, u246, u247, u248, u249, u250, u251, u252, u253, u254, u255, u256, u257, u258, u259, u260, u261, u262, u263, u264, u265, u266, u267, u268, u269, u270, u271, u272, u273, u274, u275, u276, u277, u278, u279, u280, u281, u282, u283, u284, u285, u286, u287, u288, u289, u290, u291, u292, u293, u294, u295, u296, u297, u298, u299, u300, u301, u302, u303, u304, u305, u306, u307, u308, u309, u310, u311, u312, u313, u314, u315, u316, u317, u318, u319, u320, u321, u322, u323, u324, u325, u326, u327, u328, u329, u330, u331, u332, u333, u334, u335, u336, u337, u338, u339], []⟩ wr := by
  conv => arg 2; whnf
  have HM := Lib.hid hM
  have HRM := Lib.hid hrm
  have HT0 := Lib.hid hT
  have HLK0 := Lib.hid hlk
  have HK := Lib.hid hK
  have HQ8 := Lib.hid hQ8
  have HK4 := Lib.hid hK4
  clear hM hrm hT hlk hK hQ8 hK4
  go_wp2_with fail
  go_loopw [8, 11] (RelNt w D off1 left1 f1 out) (fun _ v11 _ => (intOf v11).toNat)
  case atStart => exact ⟨kk, hk6, HLK0.out, rfl, congrArg (Value.int .i32) (by rw [HT0.out]), HM.out⟩
  case round =>
    obtain ⟨k, hk6, hlk, rfl, rfl, hM⟩ := hrel
    obtain ⟨T2, hT2e⟩ : ∃ T2, 2 ^ k = T2 := ⟨_, rfl⟩
    rw [hT2e]
    have hT2b : T2 ≤ 64 := by rw [← hT2e]; exact Nat.pow_le_pow_right (show 0 < 2 by omega) hk6
    have HK6b := Lib.hid hk6
    have HLK := Lib.hid hlk
    have HT2 := Lib.hid hT2e
    have HM4 := Lib.hid hM
    clear hM hlk hT2e
    by_cases hlt : rm1 < T2
    · have hk1 : 1 ≤ k := by
        rcases Nat.eq_zero_or_pos k with e | e
        · exfalso
          have h1 := HT2.out
          rw [e] at h1
          have := HRM.out
          simp at h1
          omega
        · exact e
      obtain ⟨T3, hT3⟩ : ∃ T3, 2 ^ (k - 1) = T3 := ⟨_, rfl⟩
      have hT23 : T2 = 2 * T3 := by rw [← HT2.out, ← hT3, ← Nat.pow_succ']; congr 1; omega
      have hd : decide ((rm1 : Int) < (T2 : Int)) = true := decide_eq_true (by omega)
      have hlk2 : (left1 + 1).log2 ≤ k - 1 := by
        have := (Nat.log2_lt (n := left1 + 1) (k := k) (by omega)).2 (by rw [HT2.out]; have := HRM.out; omega)
        omega
      have HT3 := Lib.hid hT3
      have HLK2 := Lib.hid hlk2
      have HT23 := Lib.hid hT23
      have HRMT := Lib.hid hlt
      clear hT3 hlk2 hT23 hlt
      go_wp2_with fail
      go_roundw
      case rel =>
        refine ⟨k - 1, by omega, HLK2.out, congrArg (Value.int .u64) (by omega), congrArg (Value.int .i32) (by rw [HT3.out]; have := HT23.out; omega), HM4.out⟩
      case measure =>
        have := HT23.out
        have := HRMT.out
        simp only [intOf]
        omega
    · have hd : decide ((rm1 : Int) < (T2 : Int)) = false := decide_eq_false (by omega)
      have hkl : (left1 + 1).log2 = k := by
        have h1 := HLK.out
        have h2 := (Nat.le_log2 (n := left1 + 1) (k := k) (by omega)).2 (by rw [HT2.out]; have := HRM.out; omega)
        omega
      have HBK : Hid (chB left1 = k + 1) := Lib.hid (by unfold chB; rw [hkl])
      have HTK2 : Hid (chT left1 = T2) := Lib.hid (by unfold chT; rw [hkl]; exact HT2.out)
      have hge : (T2 : Int) ≤ (rm1 : Int) := by omega
      clear hkl
      go_upto_if 216 with fail
      go_wp2_with fail
      refine HQ8.out _ _ (HK4.out _ _ ?_)
      refine nc_t4 E v3 v4 _ _ _ v12 _ _ _ _ _ _ _ _ _ _ _ _ _ _ _ _ _ _ _ _ _ _ _ _ _ _ _ _ _ _ _ _ _ _ _ _ _ _ _ _ _ _ _ _ _ _ _ _ _ _ _ _ _ _ _ _ _ _ _ _ _ _ _ _ _ _ _ _ _ _ _ _ _ _ _ _ _ _ _ _ _ _ _ _ _ _ _ _ _ _ _ _ _ _ _ _ _ _ _ _ _ _ _ _ _ _ _ _ _ _ _ _ _ _ _ _ _ _ _ _ _ _ _ _ _ _ _ _ _ _ _ _ _ _ _ _ _ _ _ _ _ _ _ _ _ _ _ _ _ _ _ _ _ _ _ _ _ _ _ _ _ _ _ _ _ _ _ _ _ _ _ _ _ _ _ _ _ _ _ _ _ _ _ _ _ _ _ _ _ _ _ _ _ _ _ _ _ _ _ _ _ _ _ _ _ _ _ _ _ _ _ _ _ _ _ _ _ _ _ _ _ _ _ _ _ _ _ _ _ _ _ _ _ _ _ _ _ _ _ _ _ _ _ _ _ _ _ _ _ _ _ _ _ _ _ _ _ _ _ _ _ _ _ _ _ _ _ _ _ _ _ _ _ _ _ _ _ _ _ _ _ _ _ _ _ _ _ _ _ _ _ _ _ _ _ _ _ _ _ _ _ _ _ _ _ _ _ _ _ _ _ _ _ _ _ _ _ _ _ _ _ _ _ _ _ _ _ _ _ _ _ HM4.out hoff h23 hbc ?_
      intro F' w' h
      refine HK.out F' w' ?_
      rw [HBK.out, HTK2.out]
      exact h
end Go.Proofs.YthkklojjpgjiiaaFmt
namespace Go.Proofs.YthkklojjpgjiiaaFmt
open Go.RowKit Go.Extern.Stop Go.Stop Go.Extern

set_option maxRecDepth 100000 in
set_option maxHeartbeats 6400000 in
theorem nc_t2 {F : Interp} {w : World} {D : Nat} {A : Option Addr} {n c x : Nat} {l : List UInt8} {f1 : Nat → Value} (E : NcE F w D A n c x l f1) {off1 bc2 m1 cc d left left1 rm gt kk T : Nat} {out1 : List Int} {wr : World} (Q : Exit → Act → World → Prop)
    (u1 u2 u4 u7 u13 u14 u16 u17 u18 u19 u20 u21 u22 u23 u24 u25 u26 u27 u28 u29 u30 u31 u32 u33 u34 u35 u36 u37 u38 u39 u40 u41 u42 u43 u44 u45 u46 u47 u48 u49 u50 u51 u52 u53 u54 u55 u56 u57 u58 u59 u60 u61 u62 u63 u64 u65 u66 u67 u68 u69 u70 u71 u72 u73 u74 u75 u76 u77 u78 u79 u80 u81 u82 u83 u84 u85 u86 u87 u88 u89 u90 u91 u92 u93 u94 u95 u96 u97 u98 u99 u100 u101 u102 u103 u104 u105 u106 u107 u108 u109 u110 u111 u112 u113 u114 u115 u116 u117 u118 u119 u120 u121 u122 u123 u124 u125 u126 u127 u128 u129 u130 u131 u132 u133 u134 u135 u136 u137 u138 u139 u140 u141 u142 u143 u144 u145 u146 u147 u148 u149 u150 u151 u152 u153 u154 u155 u156 u157 u158 u159 u160 u161 u162 u163 u164 u165 u166 u167 u168 u169 u170 u171 u172 u173 u174 u175 u176 u177 u178 u179 u180 u181 u182 u183 u184 u185 u186 u187 u188 u189 u190 u191 u192 u193 u194 u195 u196 u197 u198 u199 u200 u201 u202 u203 u204 u205 u206 u207 u208 u209 u210 u211 u212 u213 u214 u215 u216 u217 u218 u219 u220 u221 u222 u223 u224 u225 u226 u227 u228 u229 u230 u231 u232 u233 u234 u235 u236 u237 u238 u239 u240 u241 u242 u243 u244 u245 u246 u247 u248 u249 u250 u251 u252 u253 u254 u255 u256 u257 u258 u259 u260 u261 u262 u263 u264 u265 u266 u267 u268 u269 u270 u271 u272 u273 u274 u275 u276 u277 u278 u279 u280 u281 u282 u283 u284 u285 u286 u287 u288 u289 u290 u291 u292 u293 u294 u295 u296 u297 u298 u299 u300 u301 u302 u303 u304 u305 u306 u307 u308 u309 u310 u311 u312 u313 u314 u315 u316 u317 u318 u319 u320 u321 u322 u323 u324 u325 u326 u327 u328 u329 u330 u331 u332 u333 u334 u335 u336 u337 u338 u339 : Value)
    (hM : NcM w D f1 off1 out1 wr) (hml : out1.length = m1) (hm320 : m1 ≤ 320) (hoff : off1 + 4 ≤ n) (h23 : off1 + 5 < n → bc2 ≤ 23) (hbc : bc2 < 50000)
    (hcc : cc ≤ 65) (hd : ((cc : Int) - 1).natAbs = d) (hdl : d ≤ left) (hleft1 : left - d = left1) (hl64 : left ≤ 64) (hrm : left + 1 = rm) (hgt : 2 ^ (x + 5) - left = gt) (hgl : left ≤ 2 ^ (x + 5)) (hgt64 : 2 ^ (x + 5) ≤ 64)
    (hT : 2 ^ kk = T) (hk6 : kk ≤ 6) (hlk : (left + 1).log2 ≤ kk)
    (hK : ∀ F w', NcMove w D n l f1 (out1 ++ [(cc : Int) - 1]) (8 * off1 + bc2) (.int .u16 (m1 + 1 : Nat)) (.bool ((cc : Int) - 1 == 0)) (.int .u64 (chB left1 : Nat)) (.int .i32 (left1 + 1 : Nat)) (.int .i32 (chT left1 : Nat)) (.int .i32 (2 ^ (x + 5) - left1 : Nat)) F w' → Q .normal F w') :
    Code.wp Tryf.prog ncT2 Q ⟨#[.pointer (some ⟨D, 0, none⟩), u1, u2, .int .u16 (m1 : Nat), u4, .pointer (some ⟨D, 512, none⟩), .int .i64 (n : Nat), u7, .int .u64 (kk + 1 : Nat), .int .u64 (bc2 : Nat), .int .i32 (rm : Nat), .int .i32 (T : Nat), .int .i32 (gt : Nat), u13, u14, .int .i32 (cc : Nat), u16, u17, u18, u19, u20, u21, u22, u23, u24, u25, u26, u27, u28, u29, u30, u31, u32, u33, u34, u35, u36, u37, u38, u39, u40, u41, u42, u43, u44, u45, u46, u47, u48, u49, u50, u51, u52, u53, u54, u55, u56, u57, u58, u59, u60, u61, u62, u63, u64, u65, u66, u67, u68, u69, u70, u71, u72, u73, u74, u75, u76, u77, u78, u79, u80, u81, u82, u83, u84, u85, u86, u87, u88, u89, u90, u91, u92, u93, u94, u95, u96, u97, u98, u99, u100, u101, u102, u103, u104, u105, u106, u107, u108, u109, u110, u111, u112, u113, u114, u115, u116, u117, u118, u119, u120, u121, u122, u123, u124, u125, u126, u127, u128, u129, u130, u131, u132, u133, u134, u135, u136, u137, u138, u139, u140, u141, u142, u143, u144, u145, u146, u147, u148, u149, u150, u151, u152, u153, u154, u155, u156, u157, u158, u159, u160, u161, u162, u163, u164, u165, u166, u167, u168, u169, u170, u171, u172, u173, u174, u175, u176, u177, u178, u179, u180, u181, u182, u183, u184, u185, u186, u187, u188, u189, u190, u191, u192, u193, u194, u195, u196, u197, u198, u199, u200, u201, u202, u203, u204, u205, u206, u207, u208, u209, u210, u211, u212, u213, u214, u215, u216, u217, u218, u219, u220, u221, u222, u223, u224, u225, u226, u227, u228, u229, u230, u231, u232, u233, u234, u235, u236, u237, u238, u239, u240, u241, u242, u243, u244, u245, u246, u247, u248, u249, u250, u251, u252, u253, u254, u255, u256, u257, u258, u259, u260, u261, u262, u263, u264, u265, u266, u267, u268, u269, u270, u271, u272, u273, u274, u275, u276, u277, u278, u279, u280, u281, u282, u283, u284, u285, u286, u287, u288, u289, u290, u291, u292, u293, u294, u295, u296, u297, u298, u299, u300, u301, u302, u303, u304, u305, u306, u307, u308, u309, u310, u311, u312, u313, u314, u315, u316, u317, u318, u319, u320, u321, u322, u323, u324, u325, u326, u327, u328, u329, u330, u331, u332, u333, u334, u335, u336, u337, u338, u339], []⟩ wr := by
  conv => arg 2; whnf
  have HM1 := Lib.hid hM
  have HML1 := Lib.hid hml
  have HD := Lib.hid hd
  have HDL := Lib.hid hdl
  have HLE1' := Lib.hid hleft1
  have HRM := Lib.hid hrm
  have HGT := Lib.hid hgt
  have HGL := Lib.hid hgl
  have HGT64 := Lib.hid hgt64
  have HT := Lib.hid hT
  have HLK := Lib.hid hlk
  have HK := Lib.hid hK
  have hl1b : left1 ≤ 64 := by omega
  have hrm65 : rm ≤ 65 := by omega
  have hgtb : gt ≤ 64 := by omega
  clear hM hml hd hdl hleft1 hrm hgt hgl hgt64 hT hlk hK
  obtain ⟨wq, rfl⟩ : ∃ wq : World, wq = wr := ⟨_, rfl⟩
  go_upto_if 182 with fail
  go_cut [10, 12] from 183 to 194 (fun v10 v12 wx => RelNg left1 (x + 5) wq v10 v12 wx)
  case first =>
    have e1 : (cc = 0 ∧ (rm : Int) + -1 = (left1 + 1 : Nat) ∧ (gt : Int) + 1 = (2 ^ (x + 5) - left1 : Nat)) ∨ (cc ≠ 0 ∧ (rm : Int) - ((cc : Int) - 1) = (left1 + 1 : Nat) ∧ (gt : Int) + ((cc : Int) - 1) = (2 ^ (x + 5) - left1 : Nat)) := by
      have h1 := HGT.out; have h2 := HRM.out; have h3 := HD.out; have h4 := HLE1'.out; have h5 := HDL.out; have h6 := HGL.out
      by_cases h : cc = 0
      · left; refine ⟨h, ?_, ?_⟩ <;> omega
      · right; refine ⟨h, ?_, ?_⟩ <;> omega
    rcases e1 with ⟨rfl, e1, e2⟩ | ⟨hc0, e1, e2⟩
    · have E1 := Lib.hid e1
      have E2 := Lib.hid e2
      clear e1 e2
      go_wp2_with fail
      go_meet
      exact ⟨congrArg (Value.int .i32) (by have := E1.out; omega), congrArg (Value.int .i32) (by have := E2.out; omega), rfl⟩
    · have hd : decide ((cc : Int) - 1 < 0) = false := decide_eq_false (by omega)
      have E1 := Lib.hid e1
      have E2 := Lib.hid e2
      clear e1 e2
      go_wp2_with fail
      go_meet
      exact ⟨congrArg (Value.int .i32) (by have := E1.out; omega), congrArg (Value.int .i32) (by have := E2.out; omega), rfl⟩
  case rest =>
    obtain ⟨rfl, rfl, hww⟩ := hcut
    have hw2 := hww.symm
    subst hw2
    obtain ⟨rm1, hrm1⟩ : ∃ rm1, left1 + 1 = rm1 := ⟨_, rfl⟩
    obtain ⟨gt1, hgt1⟩ : ∃ gt1, 2 ^ (x + 5) - left1 = gt1 := ⟨_, rfl⟩
    rw [hrm1, hgt1]
    have hrm1b : rm1 ≤ 65 := by omega
    have HRM1 := Lib.hid hrm1
    have HGT1 := Lib.hid hgt1
    clear hrm1 hgt1
    have h32 : decide ((32767 : Int) < (cc : Int) - 1) = false := decide_eq_false (by omega)
    have hm255 := and_u16 m1 8 (by omega) (by omega) 255 (by decide)
    obtain ⟨mm, hmm⟩ : ∃ mm, m1 % 2 ^ 8 = mm := ⟨_, rfl⟩
    rw [hmm] at hm255
    have hmm256 : mm < 256 := by omega
    have hmmi : (mm : Int) < 256 := by omega
    obtain ⟨qv, hqv⟩ := HM1.out.normCell (256 + mm) (by omega)
    have hqf := HM1.out.cells.2.2.1 (256 + mm)
    have h16 : IntKind.i16.wrap ((cc : Int) - 1) = (cc : Int) - 1 := by simp [IntKind.wrap, IntKind.bits, IntKind.signed]; omega
    have HMM2 := Lib.hid hmm
    clear hmm
    go_wp2_with fail
    have hM3 := HM1.out.push ((cc : Int) - 1)
    rw [HML1.out, show m1 % 256 = mm from HMM2.out] at hM3
    rename_i K1 a1
    refine nc_t3 E (.int .u16 (m1 + 1 : Nat)) (.bool ((cc : Int) - 1 == 0)) (.int .i32 (gt1 : Nat)) Q _ K1 _ _ _ _ _ _ _ _ _ _ _ _ _ _ _ _ _ _ _ _ _ _ _ _ _ _ _ _ _ _ _ _ _ _ _ _ _ _ _ _ _ _ _ _ _ _ _ _ _ _ _ _ _ _ _ _ _ _ _ _ _ _ _ _ _ _ _ _ _ _ _ _ _ _ _ _ _ _ _ _ _ _ _ _ _ _ _ _ _ _ _ _ _ _ _ _ _ _ _ _ _ _ _ _ _ _ _ _ _ _ _ _ _ _ _ _ _ _ _ _ _ _ _ _ _ _ _ _ _ _ _ _ _ _ _ _ _ _ _ _ _ _ _ _ _ _ _ _ _ _ _ _ _ _ _ _ _ _ _ _ _ _ _ _ _ _ _ _ _ _ _ _ _ _ _ _ _ _ _ _ _ _ _ _ _ _ _ _ _ _ _ _ _ _ _ _ _ _ _ _ _ _ _ _ _ _ _ _ _ _ _ _ _ _ _ _ _ _ _ _ _ _ _ _ _ _ _ _ _ _ _ _ _ _ _ _ _ _ _ _ _ _ _ _ _ _ _ _ _ _ _ _ _ _ _ _ _ _ _ _ _ _ _ _ _ _ _ _ _ _ _ _ _ _ _ _ _ _ _ _ _ _ _ _ _ _ _ _ _ _ _ _ _ _ _ _ _ _ _ _ _ _ _ _ _ _ _ _ _ _ _ _ _ _ _ _ _ _ _ _ _ _ _ _ _ _ _ _ _ _ (fun _ _ h => h) a1 hM3 hoff h23 hbc HRM1.out hrm1b HT.out hk6 (Nat.le_trans ((Nat.le_log2 (by omega)).2 (Nat.le_trans (Nat.log2_self_le (by omega)) (by have := HLE1'.out; omega))) HLK.out) ?_
    intro F' w' h
    refine HK.out F' w' ?_
    rw [HRM1.out, HGT1.out]
    exact h
end Go.Proofs.YthkklojjpgjiiaaFmt
namespace Go.Proofs.YthkklojjpgjiiaaFmt
open Go.RowKit Go.Extern.Stop Go.Stop Go.Extern

set_option maxRecDepth 100000 in
set_option maxHeartbeats 6400000 in
theorem nc_t1 {F : Interp} {w : World} {D : Nat} {A : Option Addr} {n c x : Nat} {l : List UInt8} {f1 : Nat → Value} (E : NcE F w D A n c x l f1) {off1 bs1 bc1 m1 left : Nat} {out1 : List Int} {wr : World} (Q : Exit → Act → World → Prop)
    (u1 u2 u4 u13 u14 u15 u16 u17 u18 u19 u20 u21 u22 u23 u24 u25 u26 u27 u28 u29 u30 u31 u32 u33 u34 u35 u36 u37 u38 u39 u40 u41 u42 u43 u44 u45 u46 u47 u48 u49 u50 u51 u52 u53 u54 u55 u56 u57 u58 u59 u60 u61 u62 u63 u64 u65 u66 u67 u68 u69 u70 u71 u72 u73 u74 u75 u76 u77 u78 u79 u80 u81 u82 u83 u84 u85 u86 u87 u88 u89 u90 u91 u92 u93 u94 u95 u96 u97 u98 u99 u100 u101 u102 u103 u104 u105 u106 u107 u108 u109 u110 u111 u112 u113 u114 u115 u116 u117 u118 u119 u120 u121 u122 u123 u124 u125 u126 u127 u128 u129 u130 u131 u132 u133 u134 u135 u136 u137 u138 u139 u140 u141 u142 u143 u144 u145 u146 u147 u148 u149 u150 u151 u152 u153 u154 u155 u156 u157 u158 u159 u160 u161 u162 u163 u164 u165 u166 u167 u168 u169 u170 u171 u172 u173 u174 u175 u176 u177 u178 u179 u180 u181 u182 u183 u184 u185 u186 u187 u188 u189 u190 u191 u192 u193 u194 u195 u196 u197 u198 u199 u200 u201 u202 u203 u204 u205 u206 u207 u208 u209 u210 u211 u212 u213 u214 u215 u216 u217 u218 u219 u220 u221 u222 u223 u224 u225 u226 u227 u228 u229 u230 u231 u232 u233 u234 u235 u236 u237 u238 u239 u240 u241 u242 u243 u244 u245 u246 u247 u248 u249 u250 u251 u252 u253 u254 u255 u256 u257 u258 u259 u260 u261 u262 u263 u264 u265 u266 u267 u268 u269 u270 u271 u272 u273 u274 u275 u276 u277 u278 u279 u280 u281 u282 u283 u284 u285 u286 u287 u288 u289 u290 u291 u292 u293 u294 u295 u296 u297 u298 u299 u300 u301 u302 u303 u304 u305 u306 u307 u308 u309 u310 u311 u312 u313 u314 u315 u316 u317 u318 u319 u320 u321 u322 u323 u324 u325 u326 u327 u328 u329 u330 u331 u332 u333 u334 u335 u336 u337 u338 u339 : Value)
    (hl0 : left ≠ 0) (hM : NcM w D f1 off1 out1 wr) (hm : out1.length = m1) (hoff : off1 + 4 ≤ n) (hbc : off1 + 5 < n → bc1 ≤ 7) (hB : Bs l off1 (8 * off1 + bc1) bs1) (hml : m1 + left ≤ 320) (hbm : bc1 ≤ 100 * m1 + 90) (hle : Least out1) (hsum : sumA out1 + left = 2 ^ (x + 5))
    (hL : ∀ R, TopR l R → Ck l (8 * off1 + bc1) left out1 R)
    (hK : ∀ F w', NcNext w D n (x + 5) m1 l f1 F w' → Q .normal F w') :
    Code.wp Tryf.prog ncT1 Q ⟨#[.pointer (some ⟨D, 0, none⟩), u1, u2, .int .u16 (m1 : Nat), u4, .pointer (some ⟨D, 512, none⟩), .int .i64 (n : Nat), .int .u32 (bs1 : Nat), .int .u64 (chB left : Nat), .int .u64 (bc1 : Nat), .int .i32 (left + 1 : Nat), .int .i32 (chT left : Nat), .int .i32 (2 ^ (x + 5) - left : Nat), u13, u14, u15, u16, u17, u18, u19, u20, u21, u22, u23, u24, u25, u26, u27, u28, u29, u30, u31, u32, u33, u34, u35, u36, u37, u38, u39, u40, u41, u42, u43, u44, u45, u46, u47, u48, u49, u50, u51, u52, u53, u54, u55, u56, u57, u58, u59, u60, u61, u62, u63, u64, u65, u66, u67, u68, u69, u70, u71, u72, u73, u74, u75, u76, u77, u78, u79, u80, u81, u82, u83, u84, u85, u86, u87, u88, u89, u90, u91, u92, u93, u94, u95, u96, u97, u98, u99, u100, u101, u102, u103, u104, u105, u106, u107, u108, u109, u110, u111, u112, u113, u114, u115, u116, u117, u118, u119, u120, u121, u122, u123, u124, u125, u126, u127, u128, u129, u130, u131, u132, u133, u134, u135, u136, u137, u138, u139, u140, u141, u142, u143, u144, u145, u146, u147, u148, u149, u150, u151, u152, u153, u154, u155, u156, u157, u158, u159, u160, u161, u162, u163, u164, u165, u166, u167, u168, u169, u170, u171, u172, u173, u174, u175, u176, u177, u178, u179, u180, u181, u182, u183, u184, u185, u186, u187, u188, u189, u190, u191, u192, u193, u194, u195, u196, u197, u198, u199, u200, u201, u202, u203, u204, u205, u206, u207, u208, u209, u210, u211, u212, u213, u214, u215, u216, u217, u218, u219, u220, u221, u222, u223, u224, u225, u226, u227, u228, u229, u230, u231, u232, u233, u234, u235, u236, u237, u238, u239, u240, u241, u242, u243, u244, u245, u246, u247, u248, u249, u250, u251, u252, u253, u254, u255, u256, u257, u258, u259, u260, u261, u262, u263, u264, u265, u266, u267, u268, u269, u270, u271, u272, u273, u274, u275, u276, u277, u278, u279, u280, u281, u282, u283, u284, u285, u286, u287, u288, u289, u290, u291, u292, u293, u294, u295, u296, u297, u298, u299, u300, u301, u302, u303, u304, u305, u306, u307, u308, u309, u310, u311, u312, u313, u314, u315, u316, u317, u318, u319, u320, u321, u322, u323, u324, u325, u326, u327, u328, u329, u330, u331, u332, u333, u334, u335, u336, u337, u338, u339], []⟩ wr := by
  conv => arg 2; whnf
  have hx1 := E.hx1
  obtain ⟨rm, hrm⟩ : ∃ rm, left + 1 = rm := ⟨_, rfl⟩
  obtain ⟨gt, hgt⟩ : ∃ gt, 2 ^ (x + 5) - left = gt := ⟨_, rfl⟩
  rw [hrm, hgt]
  have HRM := Lib.hid hrm
  have HGT := Lib.hid hgt
  have HK := Lib.hid hK
  clear hrm hgt hK
  obtain ⟨wq, rfl⟩ : ∃ wq : World, wq = wr := ⟨_, rfl⟩
  have hP64 : 2 ^ (x + 5) ≤ 64 := Nat.le_trans (Nat.pow_le_pow_right (by omega) (show x + 5 ≤ 6 by omega)) (by decide)
  have hl64 : left ≤ 64 := by omega
  obtain ⟨kk, hkk⟩ : ∃ kk, (left + 1).log2 = kk := ⟨_, rfl⟩
  have hk6 : 1 ≤ kk ∧ kk ≤ 6 := by
    rw [← hkk]
    refine ⟨(Nat.le_log2 (by omega)).2 (by omega), ?_⟩
    have := (Nat.log2_lt (n := left + 1) (k := 7) (by omega)).2 (by omega)
    omega
  have hBB : chB left = kk + 1 := by unfold chB; rw [hkk]
  obtain ⟨T, hT⟩ : ∃ T, chT left = T := ⟨_, rfl⟩
  have hTk : T = 2 ^ kk := by rw [← hT, ← hkk]; rfl
  have ht := chT_facts left
  rw [hT] at ht
  obtain ⟨fw, hfw⟩ : ∃ fw, chFew left = fw := ⟨_, rfl⟩
  have hfwi : 2 * (T : Int) - 1 - (rm : Int) = (fw : Int) := by have := HRM.out; rw [← hfw]; unfold chFew; rw [hT]; omega
  obtain ⟨r, hr⟩ : ∃ r, bs1 % 2 ^ kk = r := ⟨_, rfl⟩
  have hrT : r < T := by rw [← hr, hTk]; exact Nat.mod_lt _ (Nat.two_pow_pos _)
  obtain ⟨v, hv⟩ : ∃ v, bs1 % 2 ^ (kk + 1) = v := ⟨_, rfl⟩
  have hvT : v < 2 * T := by rw [← hv, hTk, Nat.mul_comm, ← Nat.pow_succ]; exact Nat.mod_lt _ (Nat.two_pow_pos _)
  have hrv : v % T = r := by rw [← hv, ← hr, hTk]; exact Nat.mod_mod_of_dvd _ (Nat.pow_dvd_pow 2 (by omega))
  have a1 := and_i32 bs1 kk hB.1 (by omega) ((T : Int) - 1) (by rw [hTk]; have := Nat.two_pow_pos kk; omega)
  have a2 := and_i32 bs1 (kk + 1) hB.1 (by omega) (2 * (T : Int) - 1) (by rw [hTk, Nat.pow_succ]; have := Nat.two_pow_pos kk; omega)
  rw [hr, IntWalk.i32_left] at a1
  rw [hv, IntWalk.i32_left] at a2
  have hT2 : 2 ≤ T := by omega
  have hT64 : T ≤ 64 := by rw [hTk]; exact Nat.pow_le_pow_right (show 0 < 2 by omega) hk6.2
  have hrm : rm = left + 1 := HRM.out.symm
  have hrm65 : rm ≤ 65 := by omega
  have hm320 : m1 ≤ 320 := by omega
  have hbc1 : bc1 < 40000 := by omega
  have hk6' : kk ≤ 6 := hk6.2
  obtain ⟨kb, hkb⟩ : ∃ kb, kk + 1 = kb := ⟨_, rfl⟩
  have hkb7 : 1 ≤ kb ∧ kb ≤ 7 := by omega
  have hkb1 : 1 ≤ kb := hkb7.1
  have hkb7' : kb ≤ 7 := hkb7.2
  rw [hT, hBB, hkb]
  rw [hkb] at hv hBB
  have HKB := Lib.hid hkb
  have HM1 := Lib.hid hM
  have HML1 := Lib.hid hm
  have HOFF1 := Lib.hid hoff
  have HBC1 := Lib.hid hbc
  have HB1 := Lib.hid hB
  have A1 := Lib.hid a1
  have A2 := Lib.hid a2
  have HMM1 := Lib.hid hml
  have HBM1 := Lib.hid hbm
  have HLE1 := Lib.hid hle
  have HSUM1 := Lib.hid hsum
  have HL1 := Lib.hid hL
  have HBB := Lib.hid hBB
  have HT := Lib.hid hT
  have HTK := Lib.hid hTk
  have HRV := Lib.hid hrv
  have HFW := Lib.hid hfw
  have HV := Lib.hid hv
  have HK6 := Lib.hid hk6
  clear hM hm hoff hbc hB hml hbm hle hsum hL hBB hT hTk ht hkk hr hrv hv hfw hP64 hrm hk6 hkb hkb7
  go_upto_if 154 with fail
  clear a1 a2
  go_cut [9, 15] from 155 to 178 (fun v9 v15 wx => RelNc left bs1 bc1 wq v9 v15 wx)
  case first =>
    have hfe : chFew left = fw := HFW.out
    have hcT : chT left = T := HT.out
    have hch : chanceV v left = if r < fw then ((r : Int) - 1, kb - 1) else if T ≤ v then ((v : Int) - fw - 1, kb) else ((v : Int) - 1, kb) := by
      unfold chanceV
      rw [hcT, hfe, HRV.out, HBB.out]
    have hvv : bs1 % 2 ^ chB left = v := by rw [HBB.out]; exact HV.out
    have HCH := Lib.hid hch
    have HVV := Lib.hid hvv
    clear hfe hcT hch hvv
    by_cases hrf : r < fw
    · have hd : decide ((r : Int) < (fw : Int)) = true := decide_eq_true (by omega)
      have a1 := A1.out
      go_wp2_with fail
      go_meet
      clear a1
      exact ⟨r, kb - 1, by rw [HVV.out, HCH.out, if_pos hrf], rfl, congrArg (Value.int .u64) (by omega), rfl⟩
    · have hd : decide ((r : Int) < (fw : Int)) = false := decide_eq_false (by omega)
      by_cases hTv : T ≤ v
      · have hd2 : decide ((T : Int) ≤ (v : Int)) = true := decide_eq_true (by omega)
        have hfv : fw ≤ v := by omega
        have a1 := A1.out
        have a2 := A2.out
        go_wp2_with fail
        go_meet
        clear a1 a2
        exact ⟨v - fw, kb, by rw [HVV.out, HCH.out, if_neg hrf, if_pos hTv]; exact Prod.ext (by show (v : Int) - fw - 1 = _; omega) rfl, congrArg (Value.int .i32) (by unfold wrap32; omega), congrArg (Value.int .u64) (by omega), rfl⟩
      · have hd2 : decide ((T : Int) ≤ (v : Int)) = false := decide_eq_false (by omega)
        have a1 := A1.out
        have a2 := A2.out
        go_wp2_with fail
        go_meet
        clear a1 a2
        exact ⟨v, kb, by rw [HVV.out, HCH.out, if_neg hrf, if_neg hTv], rfl, congrArg (Value.int .u64) (by omega), rfl⟩
  case rest =>
    obtain ⟨cc, u, hcv, rfl, rfl, hww⟩ := hcut
    have hw2 := hww.symm
    subst hw2
    have hf := chanceV_facts (bs1 % 2 ^ chB left) left (by rw [← (chT_facts left).2.2]; exact Nat.mod_lt _ (Nat.two_pow_pos _))
    rw [hcv, HBB.out] at hf
    dsimp only at hf
    have hcc : cc ≤ 65 := by omega
    obtain ⟨bc2, hbc2⟩ : ∃ bc2, bc1 + u = bc2 := ⟨_, rfl⟩
    rw [hbc2]
    have hbc2b : bc2 < 50000 := by omega
    have hgt64 : gt ≤ 64 := by have := HGT.out; have : 2 ^ (x + 5) ≤ 64 := Nat.le_trans (Nat.pow_le_pow_right (by omega) (show x + 5 ≤ 6 by omega)) (by decide); omega
    obtain ⟨d, hd⟩ : ∃ d, ((cc : Int) - 1).natAbs = d := ⟨_, rfl⟩
    obtain ⟨left1, hleft1⟩ : ∃ left1, left - d = left1 := ⟨_, rfl⟩
    have hl1b : left1 ≤ 64 := by omega
    have hdl : d ≤ left := by omega
    have HUB : Hid (u ≤ kb) := Lib.hid hf.2.2.2
    have HCV := Lib.hid hcv
    have HBC2 := Lib.hid hbc2
    have HD := Lib.hid hd
    have HLE1' := Lib.hid hleft1
    have HDL := Lib.hid hdl
    clear hcv hbc2 hd hleft1 hf hdl
    have hk' := HKB.out
    subst hk'
    rename_i K1 a1
    refine a1 _ _ (nc_t2 (left := left) (left1 := left1) (d := d) E Q _ _ _ _ _ _ _ _ _ _ _ _ _ _ _ _ _ _ _ _ _ _ _ _ _ _ _ _ _ _ _ _ _ _ _ _ _ _ _ _ _ _ _ _ _ _ _ _ _ _ _ _ _ _ _ _ _ _ _ _ _ _ _ _ _ _ _ _ _ _ _ _ _ _ _ _ _ _ _ _ _ _ _ _ _ _ _ _ _ _ _ _ _ _ _ _ _ _ _ _ _ _ _ _ _ _ _ _ _ _ _ _ _ _ _ _ _ _ _ _ _ _ _ _ _ _ _ _ _ _ _ _ _ _ _ _ _ _ _ _ _ _ _ _ _ _ _ _ _ _ _ _ _ _ _ _ _ _ _ _ _ _ _ _ _ _ _ _ _ _ _ _ _ _ _ _ _ _ _ _ _ _ _ _ _ _ _ _ _ _ _ _ _ _ _ _ _ _ _ _ _ _ _ _ _ _ _ _ _ _ _ _ _ _ _ _ _ _ _ _ _ _ _ _ _ _ _ _ _ _ _ _ _ _ _ _ _ _ _ _ _ _ _ _ _ _ _ _ _ _ _ _ _ _ _ _ _ _ _ _ _ _ _ _ _ _ _ _ _ _ _ _ _ _ _ _ _ _ _ _ _ _ _ _ _ _ _ _ _ _ _ _ _ _ _ _ _ _ _ _ _ _ _ _ _ _ _ _ _ _ _ _ _ _ _ _ _ _ _ _ _ _ _ _ _ _ _ _ _ _ HM1.out HML1.out hm320 HOFF1.out (fun h => by have := HBC1.out h; have := HBC2.out; have := HUB.out; omega) hbc2b hcc HD.out HDL.out HLE1'.out hl64 HRM.out HGT.out (by have := HSUM1.out; omega) (by have := HGT.out; have := HSUM1.out; have : 2 ^ (x + 5) ≤ 64 := Nat.le_trans (Nat.pow_le_pow_right (by omega) (show x + 5 ≤ 6 by omega)) (by decide); omega) HTK.out.symm hk6' (by have h := HBB.out; unfold chB at h; omega) ?_)
    rintro F' w' ⟨off2, b2, hF, hM2, hpos, h42, hb2⟩
    refine HK.out F' w' ⟨_, _, _, _, _, _, _, _, hF, RelN.next (cc := cc) (u := u) (off2 := off2) (bc2 := b2) E.hnl hl0 hl64 HML1.out HOFF1.out HBC1.out HB1.out HMM1.out HBM1.out HLE1.out HSUM1.out HL1.out HCV.out (by have := HBC2.out; omega) h42 hb2 hM2 rfl rfl rfl ?_ rfl ?_ ?_ ?_, by simp [intOf]⟩
    · rw [HD.out, HLE1'.out]
    · rw [HD.out, HLE1'.out]
    · rw [HD.out, HLE1'.out]
    · rw [HD.out, HLE1'.out]
end Go.Proofs.YthkklojjpgjiiaaFmt
