/-
  huff0.ReadTable: a symbol of the code. Conditions: those of each.
-/
import Derived.Test.YthkklojjpgjiiaaFmtHuffT13
import Derived.Test.YthkklojjpgjiiaaFmtHuffT15
import Derived.Test.YthkklojjpgjiiaaFmtHuffT05
namespace Go.Proofs.YthkklojjpgjiiaaFmt
open Go.RowKit Go.Extern.Stop Go.Stop Go.Extern

set_option maxRecDepth 100000 in
set_option maxHeartbeats 6400000 in
theorem rt_sym {w0 wr : World} {B H Gr Ct Dt m p x L ln : Nat} {wv r : Nat → Nat} {v0 : Value} (hM : RtM w0 B H Gr Ct Dt m L wv r wr) (hp : p < m) (hm : m ≤ 256) (hxe : wv p = x) (hx : 1 ≤ x) (hxL : x ≤ L) (hL : L ≤ 11) (hln : 2 ^ (x - 1) = ln) (hr : r x + ln ≤ 2048)
    (u2 u3 u4 u5 u6 u7 u8 u9 u10 u11 u12 u13 u14 u15 u16 u17 u18 u20 u21 u22 u23 u24 u25 u26 u27 u28 u29 u30 u31 u33 u34 u35 u36 u37 u38 u39 u40 u41 u42 u43 u44 u45 u46 u47 u48 u49 u50 u51 u52 u53 u54 u55 u56 u57 u58 u59 u60 u61 u62 u63 u64 u65 u66 u67 u68 u69 u70 u71 u72 u73 u74 u75 u76 u77 u78 u79 u80 u81 u82 u83 u84 u85 u86 u87 u88 u89 u90 u91 u92 u93 u94 u95 u96 u97 u98 u99 u100 u101 u102 u103 u104 u105 u106 u107 u108 u109 u110 u111 u112 u113 u114 u115 u116 u117 u118 u119 u120 u121 u122 u123 u124 u125 u126 u127 u128 u129 u130 u131 u132 u133 u134 u135 u136 u137 u138 u139 u140 u141 u142 u143 u144 u145 u146 u147 u148 u149 u150 u151 u152 u153 u154 u155 u156 u157 u158 u159 u160 u161 u162 u163 u164 u165 u166 u167 u168 u169 u170 u171 u172 u173 u174 u175 u176 u177 u178 u179 u180 u181 u182 u183 u184 u185 u186 u187 u188 u189 u190 u191 u192 u193 u194 u195 u196 u197 u198 u199 u200 u201 u202 u203 u204 u205 u206 u207 u208 u209 u210 u211 u212 u213 u214 u215 u216 u217 u218 u219 u220 u221 u222 u223 u224 u225 u226 u227 u228 u229 u230 u231 u232 u233 u234 u235 u236 u237 u238 u239 u240 u241 u242 u243 u244 u245 u246 u247 u248 u249 u250 u251 u252 u253 u254 u255 u256 u257 u258 u259 u260 u261 u262 u263 u264 u265 u266 u267 u268 u269 u270 u271 u272 u273 u274 u275 u276 u277 u278 u279 u280 u281 u282 u283 u284 u285 u286 u287 u288 u289 u290 u291 u292 u293 u294 u295 u296 u297 u298 u299 u300 u301 u302 u303 u304 u305 u306 u307 u308 u309 u310 u311 u312 u313 u314 u315 u316 u317 u318 u319 u320 u321 u322 u323 u324 u325 u326 u327 u328 u329 u330 u331 u332 u333 u334 u335 u336 u337 u338 u339 u340 u341 u342 u343 u344 u345 u346 u347 u348 u349 u350 u351 u352 u353 u354 u355 u356 u357 u358 u359 u360 u361 u362 u363 u364 u365 u366 u367 u368 u369 u370 u371 u372 u373 u374 u375 u376 u377 u378 u379 u380 u381 u382 u383 u384 u385 u386 u387 u388 u389 u390 u391 u392 u393 u394 u395 u396 u397 u398 u399 u400 u401 u402 u403 u404 u405 u406 u407 u408 u409 u410 u411 u412 u413 u414 u415 u416 u417 u418 u419 u420 u421 u422 u423 u424 u425 u426 u427 u428 u429 u430 u431 u432 u433 u434 u435 u436 u437 u438 u439 u440 u441 u442 u443 u444 u445 u446 u447 u448 u449 u450 u451 u452 u453 u454 u455 u456 u457 u458 u462 u463 u464 u465 u466 u467 u468 u469 u470 u471 u472 u473 u474 u475 u476 u477 u478 u479 u480 u481 u482 u483 u484 u485 u486 u487 u488 u489 u490 u491 u492 u493 u494 u495 u496 u497 u498 u499 u500 u501 u502 u503 u504 u505 u506 u507 u508 u509 u510 u511 u512 u513 u514 u515 u516 u517 u518 u519 u520 u521 u522 u523 u524 u525 u526 u527 u528 u529 u530 u531 u532 u533 u534 u535 u536 u537 u538 u539 u540 u541 u542 u543 u544 u545 u546 u547 u548 u549 u550 u551 u552 u553 u554 u555 u556 u557 u558 u559 u560 u561 u562 u563 : Value) (Q : Exit → Act → World → Prop) (hK : ∀ F' w', Rt7F v0 (.pointer (some ⟨H, 0, none⟩)) (.pointer (some ⟨Gr, 0, none⟩)) (.slice (some ⟨Ct, 0, none⟩) 256 256) (.slice (some ⟨H, 284, none⟩) m 256) (.int .i64 (m : Nat)) (.int .i64 (p : Nat)) F' → RtM w0 B H Gr Ct Dt m L wv (fun i => if i = x then r x + ln else r i) w' → Q .normal F' w') :
    Code.wp Tryf.prog rtC13 Q ⟨#[v0, .pointer (some ⟨H, 0, none⟩), u2, u3, u4, u5, u6, u7, u8, u9, u10, u11, u12, u13, u14, u15, u16, u17, u18, .pointer (some ⟨Gr, 0, none⟩), u20, u21, u22, u23, u24, u25, u26, u27, u28, u29, u30, u31, .slice (some ⟨Ct, 0, none⟩) 256 256, u33, u34, u35, u36, u37, u38, u39, u40, u41, u42, u43, u44, u45, u46, u47, u48, u49, u50, u51, u52, u53, u54, u55, u56, u57, u58, u59, u60, u61, u62, u63, u64, u65, u66, u67, u68, u69, u70, u71, u72, u73, u74, u75, u76, u77, u78, u79, u80, u81, u82, u83, u84, u85, u86, u87, u88, u89, u90, u91, u92, u93, u94, u95, u96, u97, u98, u99, u100, u101, u102, u103, u104, u105, u106, u107, u108, u109, u110, u111, u112, u113, u114, u115, u116, u117, u118, u119, u120, u121, u122, u123, u124, u125, u126, u127, u128, u129, u130, u131, u132, u133, u134, u135, u136, u137, u138, u139, u140, u141, u142, u143, u144, u145, u146, u147, u148, u149, u150, u151, u152, u153, u154, u155, u156, u157, u158, u159, u160, u161, u162, u163, u164, u165, u166, u167, u168, u169, u170, u171, u172, u173, u174, u175, u176, u177, u178, u179, u180, u181, u182, u183, u184, u185, u186, u187, u188, u189, u190, u191, u192, u193, u194, u195, u196, u197, u198, u199, u200, u201, u202, u203, u204, u205, u206, u207, u208, u209, u210, u211, u212, u213, u214, u215, u216, u217, u218, u219, u220, u221, u222, u223, u224, u225, u226, u227, u228, u229, u230, u231, u232, u233, u234, u235, u236, u237, u238, u239, u240, u241, u242, u243, u244, u245, u246, u247, u248, u249, u250, u251, u252, u253, u254, u255, u256, u257, u258, u259, u260, u261, u262, u263, u264, u265, u266, u267, u268, u269, u270, u271, u272, u273, u274, u275, u276, u277, u278, u279, u280, u281, u282, u283, u284, u285, u286, u287, u288, u289, u290, u291, u292, u293, u294, u295, u296, u297, u298, u299, u300, u301, u302, u303, u304, u305, u306, u307, u308, u309, u310, u311, u312, u313, u314, u315, u316, u317, u318, u319, u320, u321, u322, u323, u324, u325, u326, u327, u328, u329, u330, u331, u332, u333, u334, u335, u336, u337, u338, u339, u340, u341, u342, u343, u344, u345, u346, u347, u348, u349, u350, u351, u352, u353, u354, u355, u356, u357, u358, u359, u360, u361, u362, u363, u364, u365, u366, u367, u368, u369, u370, u371, u372, u373, u374, u375, u376, u377, u378, u379, u380, u381, u382, u383, u384, u385, u386, u387, u388, u389, u390, u391, u392, u393, u394, u395, u396, u397, u398, u399, u400, u401, u402, u403, u404, u405, u406, u407, u408, u409, u410, u411, u412, u413, u414, u415, u416, u417, u418, u419, u420, u421, u422, u423, u424, u425, u426, u427, u428, u429, u430, u431, u432, u433, u434, u435, u436, u437, u438, u439, u440, u441, u442, u443, u444, u445, u446, u447, u448, u449, u450, u451, u452, u453, u454, u455, u456, u457, u458, .slice (some ⟨H, 284, none⟩) m 256, .int .i64 (m : Nat), .int .i64 (p : Nat), u462, u463, u464, u465, u466, u467, u468, u469, u470, u471, u472, u473, u474, u475, u476, u477, u478, u479, u480, u481, u482, u483, u484, u485, u486, u487, u488, u489, u490, u491, u492, u493, u494, u495, u496, u497, u498, u499, u500, u501, u502, u503, u504, u505, u506, u507, u508, u509, u510, u511, u512, u513, u514, u515, u516, u517, u518, u519, u520, u521, u522, u523, u524, u525, u526, u527, u528, u529, u530, u531, u532, u533, u534, u535, u536, u537, u538, u539, u540, u541, u542, u543, u544, u545, u546, u547, u548, u549, u550, u551, u552, u553, u554, u555, u556, u557, u558, u559, u560, u561, u562, u563], []⟩ wr := by
  conv => arg 2; whnf
  have hx0 : ((x : Int) == 0) = false := beq_eq_false_iff_ne.2 (by omega)
  have hl1 : 1 ≤ ln := by rw [← hln]; exact Nat.two_pow_pos _
  have hln2 : (2 : Int) ^ x % 4294967296 / 2 = (ln : Nat) := by
    have e1 : (2 : Nat) ^ x = 2 * ln := by rw [← hln, ← Nat.pow_succ']; congr 1; omega
    have e2 : (2 : Int) ^ x = ((2 ^ x : Nat) : Int) := by simp
    have e3 : ln ≤ 1024 := by rw [← hln]; exact Nat.le_trans (Nat.pow_le_pow_right (by omega) (show x - 1 ≤ 10 by omega)) (by decide)
    rw [e2, e1]
    omega
  have hpm : (p : Int) < (m : Int) := by omega
  have hmf := hM
  obtain ⟨⟨f, hh, hw, h268, h272⟩, hg, _, ⟨gc, hc⟩, n1, n2, _, _⟩ := hmf
  have k0 : wr.cell? ⟨H, 284 + p, none⟩ = some (.int .u8 (x : Nat)) := hh.cellv _ (by omega) _ (by rw [hw p hp, hxe])
  have k268 : wr.cell? ⟨H, 268, none⟩ = some (.int .u8 (L : Nat)) := hh.cellv 268 (by omega) _ h268
  have hgl := hg.lt
  have HM := Lib.hid hM
  have HK := Lib.hid hK
  have HW := Lib.hid hln
  clear hh hw h268 h272 hg hc hM hK hxe
  go_upto_region 106 with fail
  rename_i K6 K6Q
  have HK6 := Lib.hid K6Q
  clear K6Q
  obtain ⟨e, he⟩ : ∃ e, bits .or .u16 ((L : Int) + 1 - (x : Int)) ((p : Int) * 256) = e := ⟨_, rfl⟩
  rw [he]
  have hM1 := HM.out.alloc (.cells #[.int .u16 e] 105)
  have hE1 : (wr.alloc (.cells #[.int .u16 e] 105)).cell? ⟨wr.heap.size, 0, none⟩ = some (.int .u16 e) := cell_of_row _ _ 0 _ _ (0, 0) (heap_alloc_new _ _)
  have hDl : Dt < wr.heap.size := by obtain ⟨_, h⟩ := HM.out.hd; exact h.lt
  have hCl : Ct < wr.heap.size := by obtain ⟨_, h⟩ := HM.out.hc; exact h.lt
  obtain ⟨Ge, hGe⟩ : ∃ Ge, wr.heap.size = Ge := ⟨_, rfl⟩
  rw [hGe] at hE1 hgl hDl hCl ⊢
  generalize hw1 : World.alloc wr _ = w1 at hM1 hE1 ⊢
  obtain ⟨gc1, hc1⟩ := hM1.hc
  have kr : w1.cell? ⟨Gr, x, none⟩ = some (.int .u32 (r x : Nat)) := hM1.hg.cellv x (by omega) _ rfl
  have cc0 := hc1.cell (p * 2) (by omega)
  have cc1 := hc1.cell (p * 2 + 1) (by omega)
  have cz0 := hc1.frozen (p * 2)
  have cz1 := hc1.frozen (p * 2 + 1)
  have HM1 := Lib.hid hM1
  have HE1 := Lib.hid he
  clear hc1 hM1 hw1 k0 k268 he
  refine wp_region_noPanic ?_
  refine wp_region_quiet_tail 14 (by kernel_rfl) (by kernel_rfl) ?_
  simp only [List.take_succ_cons, List.take_zero, List.drop_succ_cons, List.drop_zero]
  repeat (go_big_quiet_step (fail))
  refine wpQuiet_nil ?_
  go_wp2_with fail
  refine NoPanic.normal (HK6.out _ _ ?_)
  clear HK6
  obtain ⟨rx, hrx⟩ : ∃ rx, r x = rx := ⟨_, rfl⟩
  rw [hrx] at hr ⊢
  have hM3 := ((HM1.out.drewN 1).code (p * 2) (.int .u16 (IntKind.u16.wrap ((rx : Int) / 2 ^ (x - 1))))).code (p * 2 + 1) (.int .u8 (e % 256))
  have he3 : (((w1.drewN 1).setCell ⟨Ct, p * 2, none⟩ (.int .u16 (IntKind.u16.wrap ((rx : Int) / 2 ^ (x - 1))))).setCell ⟨Ct, p * 2 + 1, none⟩ (.int .u8 (e % 256))).cell? ⟨Ge, 0, none⟩ = some (.int .u16 e) :=
    keepGe (show Ge ≠ Ct by omega) (keepGe (show Ge ≠ Ct by omega) hE1)
  generalize hw3 : World.setCell (World.setCell (w1.drewN 1) _ _) _ _ = w3 at hM3 he3 ⊢
  obtain ⟨f3, hh3, _, _, h272⟩ := hM3.hh
  have k272 : w3.cell? ⟨H, 272, none⟩ = some (.slice (some ⟨Dt, 0, none⟩) 2048 2048) := hh3.cellv 272 (by omega) _ h272
  have kr3 : w3.cell? ⟨Gr, x, none⟩ = some (.int .u32 (rx : Nat)) := hM3.hg.cellv x (by omega) _ (by rw [hrx])
  obtain ⟨s, hs⟩ : ∃ s, rx + ln = s := ⟨_, rfl⟩
  rw [hs] at hr
  have hsum : IntKind.u32.wrap ((rx : Int) + (ln : Int)) = ((s : Nat) : Int) := by simp [IntKind.wrap, IntKind.bits, IntKind.signed]; omega
  have hs1 : (rx : Int) ≤ (s : Int) := by omega
  have hs2 : (s : Int) ≤ 2048 := by omega
  have HM3 := Lib.hid hM3
  have HE3 := Lib.hid he3
  have HS := Lib.hid hs
  have HRX := Lib.hid hrx
  clear hh3 h272 hM3 he3 hw3 kr hE1 cc0 cc1 cz0 cz1 HM1 hs hrx
  have hif : (if 2048 = rx then (some ⟨Dt, 0, none⟩ : Option Addr) else some ⟨Dt, rx, none⟩) = some ⟨Dt, rx, none⟩ := if_neg (by have := HS.out; omega)
  go_upto_region 107 with fail
  rename_i K7 K7Q
  have HK7 := Lib.hid K7Q
  clear K7Q
  go_quiet (fail)
  refine HK7.out _ _ ?_
  clear HK7
  rw [show s - rx = ln by have := HS.out; omega]
  have hM4 := HM3.out.drewN nq
  have he4 : (w3.drewN nq).cell? ⟨Ge, 0, none⟩ = some (.int .u16 e) := HE3.out
  generalize World.drewN w3 nq = w4 at hM4 he4 ⊢
  clear k272 kr3 HM3 HE3 hif
  have hfin : ∀ F' w', RtF v0 (.pointer (some ⟨H, 0, none⟩)) (.pointer (some ⟨Gr, 0, none⟩)) (.slice (some ⟨Ct, 0, none⟩) 256 256) (.int .u8 (x : Nat)) (.int .u32 (ln : Nat)) (.pointer (some ⟨Ge, 0, none⟩)) (.pointer (some ⟨Gr, x, none⟩)) (.slice (some ⟨Dt, rx, none⟩) ln (2048 - rx)) (.slice (some ⟨H, 284, none⟩) m 256) (.int .i64 (m : Nat)) (.int .i64 (p : Nat)) F' → (∃ g, RowF w' Dt 105 2048 g) → Only (· = Dt) w4 w' → ∀ (Q1 : Exit → Act → World → Prop), (∀ F'' w'', Rt7F v0 (.pointer (some ⟨H, 0, none⟩)) (.pointer (some ⟨Gr, 0, none⟩)) (.slice (some ⟨Ct, 0, none⟩) 256 256) (.slice (some ⟨H, 284, none⟩) m 256) (.int .i64 (m : Nat)) (.int .i64 (p : Nat)) F'' → RtM w0 B H Gr Ct Dt m L wv (fun i => if i = x then r x + ln else r i) w'' → Q1 .normal F'' w'') → Code.wp Tryf.prog (cR (cR (cR (cR (cR (cR (cR (cR (rtC13))))))))) Q1 F' w' := by
    intro F' w' hF' hd' hon' Q1 hK1
    conv => arg 2; whnf
    rw [rt_frame hF']
    have hM5 := hM4.fill hon' hd'
    have kr5 : w'.cell? ⟨Gr, x, none⟩ = some (.int .u32 (rx : Nat)) := hM5.hg.cellv x (by omega) _ (by rw [HRX.out])
    have kz5 := hM5.hg.frozen x
    have HM5 := Lib.hid hM5
    have HK1 := Lib.hid hK1
    clear hM5 hK1 hM4 he4 hd' hon' hF'
    go_wp2_with fail
    refine HK1.out _ _ ⟨rfl, rfl, rfl, rfl, rfl, rfl, rfl, rfl, rfl⟩ ?_
    rw [HRX.out, HS.out]
    exact HM5.out.rank x s
  by_cases h4 : 4 ≤ ln
  · have hd4 : decide ((4 : Int) ≤ (ln : Int)) = true := decide_eq_true (by omega)
    have hm4 : ln % 4 = 0 := by
      have h1 := HW.out
      have h2 : 3 ≤ x := by
        rcases (show x = 1 ∨ x = 2 ∨ 3 ≤ x by omega) with e | e | e
        · subst e; simp at h1; omega
        · subst e; simp at h1; omega
        · exact e
      rw [← h1, show x - 1 = (x - 3) + 2 by omega, Nat.pow_add]
      omega
    go_upto_if 519 with fail
    rename_i K8 K8Q
    have HK8 := Lib.hid K8Q
    clear K8Q
    go_step
    refine rt_fill4 (Ge := Ge) (e := e) hM4.hd he4 (by omega) (by have := HS.out; omega) hm4 h4 _ _ _ _ _ _ _ _ _ _ _ _ _ _ _ _ _ _ _ _ _ _ _ _ _ _ _ _ _ _ _ _ _ _ _ _ _ _ _ _ _ _ _ _ _ _ _ _ _ _ _ _ _ _ _ _ _ _ _ _ _ _ _ _ _ _ _ _ _ _ _ _ _ _ _ _ _ _ _ _ _ _ _ _ _ _ _ _ _ _ _ _ _ _ _ _ _ _ _ _ _ _ _ _ _ _ _ _ _ _ _ _ _ _ _ _ _ _ _ _ _ _ _ _ _ _ _ _ _ _ _ _ _ _ _ _ _ _ _ _ _ _ _ _ _ _ _ _ _ _ _ _ _ _ _ _ _ _ _ _ _ _ _ _ _ _ _ _ _ _ _ _ _ _ _ _ _ _ _ _ _ _ _ _ _ _ _ _ _ _ _ _ _ _ _ _ _ _ _ _ _ _ _ _ _ _ _ _ _ _ _ _ _ _ _ _ _ _ _ _ _ _ _ _ _ _ _ _ _ _ _ _ _ _ _ _ _ _ _ _ _ _ _ _ _ _ _ _ _ _ _ _ _ _ _ _ _ _ _ _ _ _ _ _ _ _ _ _ _ _ _ _ _ _ _ _ _ _ _ _ _ _ _ _ _ _ _ _ _ _ _ _ _ _ _ _ _ _ _ _ _ _ _ _ _ _ _ _ _ _ _ _ _ _ _ _ _ _ _ _ _ _ _ _ _ _ _ _ _ _ _ _ _ _ _ _ _ _ _ _ _ _ _ _ _ _ _ _ _ _ _ _ _ _ _ _ _ _ _ _ _ _ _ _ _ _ _ _ _ _ _ _ _ _ _ _ _ _ _ _ _ _ _ _ _ _ _ _ _ _ _ _ _ _ _ _ _ _ _ _ _ _ _ _ _ _ _ _ _ _ _ _ _ _ _ _ _ _ _ _ _ _ _ _ _ _ _ _ _ _ _ _ _ _ _ _ _ _ _ _ _ _ _ _ _ _ _ _ _ _ _ _ _ _ _ _ _ _ _ _ _ _ _ _ _ _ _ _ _ _ _ _ _ _ _ _ _ _ _ _ _ _ _ _ _ _ _ _ _ _ _ _ _ _ _ _ _ _ _ _ _ _ _ _ _ _ _ _ _ _ _ _ _ _ _ _ _ _ _ _ _ _ _ _ _ _ _ _ _ _ _ _ _ _ _ _ _ _ _ _ _ _ _ _ _ _ _ _ _ _ _ _ _ ?_
    intro F' w' hF' hd' hon'
    refine HK8.out _ _ ?_
    exact hfin F' w' hF' hd' hon' _ HK.out
  · have hd4 : decide ((4 : Int) ≤ (ln : Int)) = false := decide_eq_false (by omega)
    go_upto_if 519 with fail
    rename_i K8 K8Q
    have HK8 := Lib.hid K8Q
    clear K8Q
    go_step
    refine rt_fill1 (Ge := Ge) (e := e) hM4.hd he4 (by omega) (by have := HS.out; omega) hl1 _ _ _ _ _ _ _ _ _ _ _ _ _ _ _ _ _ _ _ _ _ _ _ _ _ _ _ _ _ _ _ _ _ _ _ _ _ _ _ _ _ _ _ _ _ _ _ _ _ _ _ _ _ _ _ _ _ _ _ _ _ _ _ _ _ _ _ _ _ _ _ _ _ _ _ _ _ _ _ _ _ _ _ _ _ _ _ _ _ _ _ _ _ _ _ _ _ _ _ _ _ _ _ _ _ _ _ _ _ _ _ _ _ _ _ _ _ _ _ _ _ _ _ _ _ _ _ _ _ _ _ _ _ _ _ _ _ _ _ _ _ _ _ _ _ _ _ _ _ _ _ _ _ _ _ _ _ _ _ _ _ _ _ _ _ _ _ _ _ _ _ _ _ _ _ _ _ _ _ _ _ _ _ _ _ _ _ _ _ _ _ _ _ _ _ _ _ _ _ _ _ _ _ _ _ _ _ _ _ _ _ _ _ _ _ _ _ _ _ _ _ _ _ _ _ _ _ _ _ _ _ _ _ _ _ _ _ _ _ _ _ _ _ _ _ _ _ _ _ _ _ _ _ _ _ _ _ _ _ _ _ _ _ _ _ _ _ _ _ _ _ _ _ _ _ _ _ _ _ _ _ _ _ _ _ _ _ _ _ _ _ _ _ _ _ _ _ _ _ _ _ _ _ _ _ _ _ _ _ _ _ _ _ _ _ _ _ _ _ _ _ _ _ _ _ _ _ _ _ _ _ _ _ _ _ _ _ _ _ _ _ _ _ _ _ _ _ _ _ _ _ _ _ _ _ _ _ _ _ _ _ _ _ _ _ _ _ _ _ _ _ _ _ _ _ _ _ _ _ _ _ _ _ _ _ _ _ _ _ _ _ _ _ _ _ _ _ _ _ _ _ _ _ _ _ _ _ _ _ _ _ _ _ _ _ _ _ _ _ _ _ _ _ _ _ _ _ _ _ _ _ _ _ _ _ _ _ _ _ _ _ _ _ _ _ _ _ _ _ _ _ _ _ _ _ _ _ _ _ _ _ _ _ _ _ _ _ _ _ _ _ _ _ _ _ _ _ _ _ _ _ _ _ _ _ _ _ _ _ _ _ _ _ _ _ _ _ _ _ _ _ _ _ _ _ _ _ _ _ _ _ _ _ _ _ _ _ _ _ _ _ _ _ _ _ _ _ _ _ _ _ _ _ _ _ _ _ _ _ _ _ _ _ _ _ _ _ _ _ _ _ _ _ ?_
    intro F' w' hF' hd' hon'
    refine HK8.out _ _ ?_
    exact hfin F' w' hF' hd' hon' _ HK.out
end Go.Proofs.YthkklojjpgjiiaaFmt
