/-
  huff0.ReadTable: the counts. Conditions: those of each.
-/
import Derived.Test.YthkklojjpgjiiaaFmtHuffT22
import Derived.Test.YthkklojjpgjiiaaFmtHuffT12
namespace Go.Proofs.YthkklojjpgjiiaaFmt
open Go.RowKit Go.Extern.Stop Go.Stop Go.Extern

noncomputable def rtS3 : Code := cR (cR (cR (cR (cR (cR (cR (((Tryf.f16.body).getD .skip))))))))
/-- between rounds of four weights -/
def H4Rel (w0 : World) (ws : List Int) (H Hs m : Nat) (v15 v16 : Value) (wr : World) : Prop :=
  ∃ (p s : Nat) (h : Nat → Nat), p ≤ m ∧ v16 = .slice (some ⟨H, 284 + p, none⟩) (m - p) (256 - p) ∧ v15 = .int .u8 (s : Nat) ∧ Seen ws p s ∧ HistP ws Hs p h wr ∧ Only (· = Hs) w0 wr
/-- between single weights -/
def H1Rel (w0 : World) (ws : List Int) (Hs m p0 : Nat) (v15 v255 : Value) (wr : World) : Prop :=
  ∃ (i s : Nat) (h : Nat → Nat), p0 + i ≤ m ∧ v255 = .int .i64 (i : Nat) ∧ v15 = .int .u8 (s : Nat) ∧ Seen ws (p0 + i) s ∧ HistP ws Hs (p0 + i) h wr ∧ Only (· = Hs) w0 wr
set_option maxRecDepth 100000 in
set_option maxHeartbeats 6400000 in
theorem rt_s3 {w0 wr : World} {B H m : Nat} {ws : List Int} {f : Nat → Value} {A0 : Option Addr} {n0 c0 : Nat} (hh : RowF wr H 58 540 f) (hbl : Bl w0 B wr) (hBH : B ≤ H) (h265 : f 265 = .int .u16 (m : Nat)) (h272 : f 272 = .slice none 0 0) (h270 : f 270 = .slice none 0 0)
    (hw : ∀ k, k < m → f (284 + k) = .int .u8 (wvF ws k : Nat)) (hwb : ∀ k, wvF ws k < 256) (hm : m ≤ 255) (h0 : ∀ x ∈ ws, 0 ≤ x) (hml : ws.length = m)
    (u2 u3 u4 u5 u6 u7 u8 u9 u10 u11 u12 u13 u14 u15 u16 u17 u18 u19 u20 u21 u22 u23 u24 u25 u26 u27 u28 u29 u30 u31 u32 u33 u34 u35 u36 u37 u38 u39 u40 u41 u42 u43 u44 u45 u46 u47 u48 u49 u50 u51 u52 u53 u54 u55 u56 u57 u58 u59 u60 u61 u62 u63 u64 u65 u66 u67 u68 u69 u70 u71 u72 u73 u74 u75 u76 u77 u78 u79 u80 u81 u82 u83 u84 u85 u86 u87 u88 u89 u90 u91 u92 u93 u94 u95 u96 u97 u98 u99 u100 u101 u102 u103 u104 u105 u106 u107 u108 u109 u110 u111 u112 u113 u114 u115 u116 u117 u118 u119 u120 u121 u122 u123 u124 u125 u126 u127 u128 u129 u130 u131 u132 u133 u134 u135 u136 u137 u138 u139 u140 u141 u142 u143 u144 u145 u146 u147 u148 u149 u150 u151 u152 u153 u154 u155 u156 u157 u158 u159 u160 u161 u162 u163 u164 u165 u166 u167 u168 u169 u170 u171 u172 u173 u174 u175 u176 u177 u178 u179 u180 u181 u182 u183 u184 u185 u186 u187 u188 u189 u190 u191 u192 u193 u194 u195 u196 u197 u198 u199 u200 u201 u202 u203 u204 u205 u206 u207 u208 u209 u210 u211 u212 u213 u214 u215 u216 u217 u218 u219 u220 u221 u222 u223 u224 u225 u226 u227 u228 u229 u230 u231 u232 u233 u234 u235 u236 u237 u238 u239 u240 u241 u242 u243 u244 u245 u246 u247 u248 u249 u250 u251 u252 u253 u254 u255 u256 u257 u258 u259 u260 u261 u262 u263 u264 u265 u266 u267 u268 u269 u270 u271 u272 u273 u274 u275 u276 u277 u278 u279 u280 u281 u282 u283 u284 u285 u286 u287 u288 u289 u290 u291 u292 u293 u294 u295 u296 u297 u298 u299 u300 u301 u302 u303 u304 u305 u306 u307 u308 u309 u310 u311 u312 u313 u314 u315 u316 u317 u318 u319 u320 u321 u322 u323 u324 u325 u326 u327 u328 u329 u330 u331 u332 u333 u334 u335 u336 u337 u338 u339 u340 u341 u342 u343 u344 u345 u346 u347 u348 u349 u350 u351 u352 u353 u354 u355 u356 u357 u358 u359 u360 u361 u362 u363 u364 u365 u366 u367 u368 u369 u370 u371 u372 u373 u374 u375 u376 u377 u378 u379 u380 u381 u382 u383 u384 u385 u386 u387 u388 u389 u390 u391 u392 u393 u394 u395 u396 u397 u398 u399 u400 u401 u402 u403 u404 u405 u406 u407 u408 u409 u410 u411 u412 u413 u414 u415 u416 u417 u418 u419 u420 u421 u422 u423 u424 u425 u426 u427 u428 u429 u430 u431 u432 u433 u434 u435 u436 u437 u438 u439 u440 u441 u442 u443 u444 u445 u446 u447 u448 u449 u450 u451 u452 u453 u454 u455 u456 u457 u458 u459 u460 u461 u462 u463 u464 u465 u466 u467 u468 u469 u470 u471 u472 u473 u474 u475 u476 u477 u478 u479 u480 u481 u482 u483 u484 u485 u486 u487 u488 u489 u490 u491 u492 u493 u494 u495 u496 u497 u498 u499 u500 u501 u502 u503 u504 u505 u506 u507 u508 u509 u510 u511 u512 u513 u514 u515 u516 u517 u518 u519 u520 u521 u522 u523 u524 u525 u526 u527 u528 u529 u530 u531 u532 u533 u534 u535 u536 u537 u538 u539 u540 u541 u542 u543 u544 u545 u546 u547 u548 u549 u550 u551 u552 u553 u554 u555 u556 u557 u558 u559 u560 u561 u562 u563 : Value) (Q : Exit → Act → World → Prop) (hErr : clsF ws ≠ 0 → ∀ F' w' b, RtE (.pointer (some ⟨H, 0, none⟩)) (.slice none 0 0) (.iface 107 (.pointer (some ⟨b, 0, none⟩))) F' → Bl w0 B w' → Q .ret F' w') (hOk : clsF ws = 0 → ∀ F' w', RtE (.pointer (some ⟨H, 0, none⟩)) (.slice A0 n0 c0) .nilIface F' → Bl w0 B w' → Q .ret F' w') :
    Code.wp Tryf.prog rtS3 Q ⟨#[.slice A0 n0 c0, .pointer (some ⟨H, 0, none⟩), u2, u3, u4, u5, u6, u7, u8, u9, u10, u11, u12, u13, u14, u15, u16, u17, u18, u19, u20, u21, u22, u23, u24, u25, u26, u27, u28, u29, u30, u31, u32, u33, u34, u35, u36, u37, u38, u39, u40, u41, u42, u43, u44, u45, u46, u47, u48, u49, u50, u51, u52, u53, u54, u55, u56, u57, u58, u59, u60, u61, u62, u63, u64, u65, u66, u67, u68, u69, u70, u71, u72, u73, u74, u75, u76, u77, u78, u79, u80, u81, u82, u83, u84, u85, u86, u87, u88, u89, u90, u91, u92, u93, u94, u95, u96, u97, u98, u99, u100, u101, u102, u103, u104, u105, u106, u107, u108, u109, u110, u111, u112, u113, u114, u115, u116, u117, u118, u119, u120, u121, u122, u123, u124, u125, u126, u127, u128, u129, u130, u131, u132, u133, u134, u135, u136, u137, u138, u139, u140, u141, u142, u143, u144, u145, u146, u147, u148, u149, u150, u151, u152, u153, u154, u155, u156, u157, u158, u159, u160, u161, u162, u163, u164, u165, u166, u167, u168, u169, u170, u171, u172, u173, u174, u175, u176, u177, u178, u179, u180, u181, u182, u183, u184, u185, u186, u187, u188, u189, u190, u191, u192, u193, u194, u195, u196, u197, u198, u199, u200, u201, u202, u203, u204, u205, u206, u207, u208, u209, u210, u211, u212, u213, u214, u215, u216, u217, u218, u219, u220, u221, u222, u223, u224, u225, u226, u227, u228, u229, u230, u231, u232, u233, u234, u235, u236, u237, u238, u239, u240, u241, u242, u243, u244, u245, u246, u247, u248, u249, u250, u251, u252, u253, u254, u255, u256, u257, u258, u259, u260, u261, u262, u263, u264, u265, u266, u267, u268, u269, u270, u271, u272, u273, u274, u275, u276, u277, u278, u279, u280, u281, u282, u283, u284, u285, u286, u287, u288, u289, u290, u291, u292, u293, u294, u295, u296, u297, u298, u299, u300, u301, u302, u303, u304, u305, u306, u307, u308, u309, u310, u311, u312, u313, u314, u315, u316, u317, u318, u319, u320, u321, u322, u323, u324, u325, u326, u327, u328, u329, u330, u331, u332, u333, u334, u335, u336, u337, u338, u339, u340, u341, u342, u343, u344, u345, u346, u347, u348, u349, u350, u351, u352, u353, u354, u355, u356, u357, u358, u359, u360, u361, u362, u363, u364, u365, u366, u367, u368, u369, u370, u371, u372, u373, u374, u375, u376, u377, u378, u379, u380, u381, u382, u383, u384, u385, u386, u387, u388, u389, u390, u391, u392, u393, u394, u395, u396, u397, u398, u399, u400, u401, u402, u403, u404, u405, u406, u407, u408, u409, u410, u411, u412, u413, u414, u415, u416, u417, u418, u419, u420, u421, u422, u423, u424, u425, u426, u427, u428, u429, u430, u431, u432, u433, u434, u435, u436, u437, u438, u439, u440, u441, u442, u443, u444, u445, u446, u447, u448, u449, u450, u451, u452, u453, u454, u455, u456, u457, u458, u459, u460, u461, u462, u463, u464, u465, u466, u467, u468, u469, u470, u471, u472, u473, u474, u475, u476, u477, u478, u479, u480, u481, u482, u483, u484, u485, u486, u487, u488, u489, u490, u491, u492, u493, u494, u495, u496, u497, u498, u499, u500, u501, u502, u503, u504, u505, u506, u507, u508, u509, u510, u511, u512, u513, u514, u515, u516, u517, u518, u519, u520, u521, u522, u523, u524, u525, u526, u527, u528, u529, u530, u531, u532, u533, u534, u535, u536, u537, u538, u539, u540, u541, u542, u543, u544, u545, u546, u547, u548, u549, u550, u551, u552, u553, u554, u555, u556, u557, u558, u559, u560, u561, u562, u563], []⟩ wr := by
  conv => arg 2; whnf
  have HH := Lib.hid hh
  have HERR := Lib.hid hErr
  have HOK := Lib.hid hOk
  have H265 := Lib.hid h265
  have H272 := Lib.hid h272
  have H270 := Lib.hid h270
  have HW := Lib.hid hw
  have HWB := Lib.hid hwb
  have H0 := Lib.hid h0
  have hl1 := hh.lt
  have HBL := Lib.hid hbl
  clear hh hErr hOk h265 h272 h270 hw h0 hwb hbl
  go_upto_region 37 with fail
  rename_i K0 K0Q
  have HK0 := Lib.hid K0Q
  clear K0Q
  have hs1 := row64 wr 102
  have hh1 := HH.out.alloc (.cells #[.int .u32 0, .int .u32 0, .int .u32 0, .int .u32 0, .int .u32 0, .int .u32 0, .int .u32 0, .int .u32 0, .int .u32 0, .int .u32 0, .int .u32 0, .int .u32 0, .int .u32 0, .int .u32 0, .int .u32 0, .int .u32 0, .int .u32 0, .int .u32 0, .int .u32 0, .int .u32 0, .int .u32 0, .int .u32 0, .int .u32 0, .int .u32 0, .int .u32 0, .int .u32 0, .int .u32 0, .int .u32 0, .int .u32 0, .int .u32 0, .int .u32 0, .int .u32 0, .int .u32 0, .int .u32 0, .int .u32 0, .int .u32 0, .int .u32 0, .int .u32 0, .int .u32 0, .int .u32 0, .int .u32 0, .int .u32 0, .int .u32 0, .int .u32 0, .int .u32 0, .int .u32 0, .int .u32 0, .int .u32 0, .int .u32 0, .int .u32 0, .int .u32 0, .int .u32 0, .int .u32 0, .int .u32 0, .int .u32 0, .int .u32 0, .int .u32 0, .int .u32 0, .int .u32 0, .int .u32 0, .int .u32 0, .int .u32 0, .int .u32 0, .int .u32 0] 102)
  have hb1 := HBL.out.alloc (.cells #[.int .u32 0, .int .u32 0, .int .u32 0, .int .u32 0, .int .u32 0, .int .u32 0, .int .u32 0, .int .u32 0, .int .u32 0, .int .u32 0, .int .u32 0, .int .u32 0, .int .u32 0, .int .u32 0, .int .u32 0, .int .u32 0, .int .u32 0, .int .u32 0, .int .u32 0, .int .u32 0, .int .u32 0, .int .u32 0, .int .u32 0, .int .u32 0, .int .u32 0, .int .u32 0, .int .u32 0, .int .u32 0, .int .u32 0, .int .u32 0, .int .u32 0, .int .u32 0, .int .u32 0, .int .u32 0, .int .u32 0, .int .u32 0, .int .u32 0, .int .u32 0, .int .u32 0, .int .u32 0, .int .u32 0, .int .u32 0, .int .u32 0, .int .u32 0, .int .u32 0, .int .u32 0, .int .u32 0, .int .u32 0, .int .u32 0, .int .u32 0, .int .u32 0, .int .u32 0, .int .u32 0, .int .u32 0, .int .u32 0, .int .u32 0, .int .u32 0, .int .u32 0, .int .u32 0, .int .u32 0, .int .u32 0, .int .u32 0, .int .u32 0, .int .u32 0] 102)
  obtain ⟨g, hg⟩ : ∃ g, wr.heap.size = g := ⟨_, rfl⟩
  have hBg : B ≤ g := by rw [← hg]; exact HBL.out.size
  rw [hg] at hs1 hl1 ⊢
  generalize World.alloc wr _ = w1 at hs1 hh1 hb1 ⊢
  have HB1 := Lib.hid hb1
  clear hb1
  have HH1 := Lib.hid hh1
  have HS1 := Lib.hid hs1
  clear hh1 hs1 hg
  go_wp2_with fail
  refine HK0.out _ _ ?_
  clear HK0
  have k265 : w1.cell? ⟨H, 265, none⟩ = some (.int .u16 (m : Nat)) := HH1.out.cellv 265 (by omega) _ H265.out
  have hm2 : (m : Int) ≤ 256 := by omega
  go_upto_region 38 with fail
  rename_i K9 K9Q
  have HK9 := Lib.hid K9Q
  clear K9Q
  go_quiet (fail)
  refine HK9.out _ _ ?_
  clear HK9 k265
  have hh2 := HH1.out.drewN nq
  have hs2 := HS1.out.drewN nq
  have hb2 := HB1.out.drewN nq
  generalize World.drewN w1 nq = w2 at hh2 hs2 hb2 ⊢
  have HB2 := Lib.hid hb2
  clear hb2
  have HH2 := Lib.hid hh2
  have HS2 := Lib.hid hs2
  clear hh2 hs2 HH1 HS1
  go_wp2_with fail
  rename_i K1 K1Q
  have HK1 := Lib.hid K1Q
  clear K1Q
  go_loopw [15, 16] (H4Rel w2 ws H g m) (fun _ v16 _ => sliceLen v16)
  case atStart =>
    exact ⟨0, 0, fun _ => 0, by omega, rfl, rfl, ⟨by omega, by simp⟩, ⟨HS2.out.congr fun _ _ => rfl, fun i _ => rfl⟩, Only.refl _ _⟩
  case round =>
    obtain ⟨p, s, h, hpm, rfl, rfl, hse, hhi, ho⟩ := hrel
    by_cases h4 : 4 ≤ m - p
    · have hdec : decide ((4 : Int) ≤ ((m - p : Nat) : Int)) = true := decide_eq_true (by omega)
      have hhr := ho.row HH2.out (show H ≠ g by omega)
      obtain ⟨x0, hx0⟩ : ∃ x, wvF ws (p) = x := ⟨_, rfl⟩
      have hxb0 : x0 < 256 := by rw [← hx0]; exact HWB.out (p)
      obtain ⟨y0, hy0⟩ : ∃ y, x0 % 16 = y := ⟨_, rfl⟩
      have hy0b : y0 < 16 := by omega
      have hwy0 : wfF ws (p) = y0 := by unfold wfF; rw [hx0, hy0]
      have an0 : bits .and .u8 (x0 : Int) 15 = (y0 : Nat) := by rw [and8_15 x0 hxb0, hy0]
      have yi0 : (y0 : Int) < 16 := by omega
      have hfx0 : f (284 + p) = .int .u8 (x0 : Nat) := by rw [show 284 + p = 284 + (p) by omega, HW.out (p) (by omega), hx0]
      clear hy0
      obtain ⟨x1, hx1⟩ : ∃ x, wvF ws (p + 1) = x := ⟨_, rfl⟩
      have hxb1 : x1 < 256 := by rw [← hx1]; exact HWB.out (p + 1)
      obtain ⟨y1, hy1⟩ : ∃ y, x1 % 16 = y := ⟨_, rfl⟩
      have hy1b : y1 < 16 := by omega
      have hwy1 : wfF ws (p + 1) = y1 := by unfold wfF; rw [hx1, hy1]
      have an1 : bits .and .u8 (x1 : Int) 15 = (y1 : Nat) := by rw [and8_15 x1 hxb1, hy1]
      have yi1 : (y1 : Int) < 16 := by omega
      have hfx1 : f (284 + p + 1) = .int .u8 (x1 : Nat) := by rw [show 284 + p + 1 = 284 + (p + 1) by omega, HW.out (p + 1) (by omega), hx1]
      clear hy1
      obtain ⟨x2, hx2⟩ : ∃ x, wvF ws (p + 2) = x := ⟨_, rfl⟩
      have hxb2 : x2 < 256 := by rw [← hx2]; exact HWB.out (p + 2)
      obtain ⟨y2, hy2⟩ : ∃ y, x2 % 16 = y := ⟨_, rfl⟩
      have hy2b : y2 < 16 := by omega
      have hwy2 : wfF ws (p + 2) = y2 := by unfold wfF; rw [hx2, hy2]
      have an2 : bits .and .u8 (x2 : Int) 15 = (y2 : Nat) := by rw [and8_15 x2 hxb2, hy2]
      have yi2 : (y2 : Int) < 16 := by omega
      have hfx2 : f (284 + p + 2) = .int .u8 (x2 : Nat) := by rw [show 284 + p + 2 = 284 + (p + 2) by omega, HW.out (p + 2) (by omega), hx2]
      clear hy2
      obtain ⟨x3, hx3⟩ : ∃ x, wvF ws (p + 3) = x := ⟨_, rfl⟩
      have hxb3 : x3 < 256 := by rw [← hx3]; exact HWB.out (p + 3)
      obtain ⟨y3, hy3⟩ : ∃ y, x3 % 16 = y := ⟨_, rfl⟩
      have hy3b : y3 < 16 := by omega
      have hwy3 : wfF ws (p + 3) = y3 := by unfold wfF; rw [hx3, hy3]
      have an3 : bits .and .u8 (x3 : Int) 15 = (y3 : Nat) := by rw [and8_15 x3 hxb3, hy3]
      have yi3 : (y3 : Int) < 16 := by omega
      have hfx3 : f (284 + p + 3) = .int .u8 (x3 : Nat) := by rw [show 284 + p + 3 = 284 + (p + 3) by omega, HW.out (p + 3) (by omega), hx3]
      clear hy3
      have o1 : bits .or .u8 (x0 : Int) (x1 : Int) = ((x0 ||| x1 : Nat) : Int) := or8 _ _ hxb0 hxb1
      have ob1 := or8_lt _ _ hxb0 hxb1
      have o2 : bits .or .u8 ((x0 ||| x1 : Nat) : Int) (x2 : Int) = ((x0 ||| x1 ||| x2 : Nat) : Int) := or8 _ _ ob1 hxb2
      have ob2 := or8_lt _ _ ob1 hxb2
      have o3 : bits .or .u8 ((x0 ||| x1 ||| x2 : Nat) : Int) (x3 : Int) = ((x0 ||| x1 ||| x2 ||| x3 : Nat) : Int) := or8 _ _ ob2 hxb3
      have ob3 := or8_lt _ _ ob2 hxb3
      have o4 : bits .or .u8 (s : Int) ((x0 ||| x1 ||| x2 ||| x3 : Nat) : Int) = ((s ||| (x0 ||| x1 ||| x2 ||| x3) : Nat) : Int) := or8 _ _ hse.1 ob3
      have hse4 := ((((hse.add hx0 hxb0).add hx1 hxb1).add hx2 hxb2).add hx3 hxb3)
      have eor : s ||| x0 ||| x1 ||| x2 ||| x3 = s ||| (x0 ||| x1 ||| x2 ||| x3) := by simp only [Nat.or_assoc]
      rw [eor] at hse4
      obtain ⟨q1, hq1⟩ : ∃ q, x0 ||| x1 = q := ⟨_, rfl⟩
      rw [hq1] at o1 o2 o3 o4 hse4
      obtain ⟨q2, hq2⟩ : ∃ q, q1 ||| x2 = q := ⟨_, rfl⟩
      rw [hq2] at o2 o3 o4 hse4
      obtain ⟨q3, hq3⟩ : ∃ q, q2 ||| x3 = q := ⟨_, rfl⟩
      rw [hq3] at o3 o4 hse4
      obtain ⟨q4, hq4⟩ : ∃ q, s ||| q3 = q := ⟨_, rfl⟩
      rw [hq4] at o4 hse4
      clear eor ob1 ob2 ob3 hq1 hq2 hq3 hq4
      have HSE := Lib.hid hse4
      clear hse hse4 hx0 hx1 hx2 hx3
      obtain ⟨mq, hmq⟩ : ∃ q, m - p = q := ⟨_, rfl⟩
      obtain ⟨cq, hcq⟩ : ∃ q, 256 - p = q := ⟨_, rfl⟩
      have HMQ := Lib.hid hmq
      have HCQ := Lib.hid hcq
      have hmq4 : (4 : Int) ≤ (mq : Int) := by omega
      have hif : (if cq = 4 then (some ⟨H, 284 + p, none⟩ : Option Addr) else some ⟨H, 284 + p + 4, none⟩) = some ⟨H, 284 + p + 4, none⟩ := if_neg (by omega)
      have hcm : (mq : Int) ≤ (cq : Int) := by omega
      rw [hmq] at hdec
      rw [hmq, hcq]
      clear hmq hcq
      have hhi0 := hhi
      have hhr0 := hhr
      have ho0 := ho
      clear hhi hhr ho
      have kx0 : wr.cell? ⟨H, 284 + p, none⟩ = some (.int .u8 (x0 : Nat)) := hhr0.cellv (284 + p) (by omega) _ hfx0
      obtain ⟨e0, he0⟩ : ∃ c, h (y0) = c := ⟨_, rfl⟩
      have heb0 : e0 ≤ p := by rw [← he0]; exact hhi0.le hy0b (by omega)
      have kc0 : wr.cell? ⟨g, y0, none⟩ = some (.int .u32 (e0 : Nat)) := hhi0.1.cellv (y0) (by omega) _ (by rw [he0])
      have kz0 := hhi0.1.frozen (y0)
      obtain ⟨hf1, hhi1⟩ := hhi0.put hwy0 hy0b (o := y0) (by omega) he0
      have hhr1 := hhr0.other (p := ⟨g, y0, none⟩) (.int .u32 ((e0 : Int) + 1)) (show g ≠ H by omega)
      have ho1 := ho0.set_ (p := ⟨g, y0, none⟩) rfl (.int .u32 ((e0 : Int) + 1))
      have HHI0 := Lib.hid hhi1
      have HHR0 := Lib.hid hhr1
      have HO0 := Lib.hid ho1
      clear hhi0 hhr0 ho0 hhi1 hhr1 ho1 he0
      go_upto_region 42 with fail
      have hhi1 := HHI0.out
      have hhr1 := HHR0.out
      have ho1 := HO0.out
      clear HHI0 HHR0 HO0 kc0 kz0 kx0
      generalize World.setCell wr _ _ = wa at hhi1 hhr1 ho1 ⊢
      have kx1 : wa.cell? ⟨H, 284 + p + 1, none⟩ = some (.int .u8 (x1 : Nat)) := hhr1.cellv (284 + p + 1) (by omega) _ hfx1
      obtain ⟨e1, he1⟩ : ∃ c, hf1 (16 + y1) = c := ⟨_, rfl⟩
      have heb1 : e1 ≤ p + 1 := by rw [← he1]; exact hhi1.le hy1b (by omega)
      have kc1 : wa.cell? ⟨g, 16 + y1, none⟩ = some (.int .u32 (e1 : Nat)) := hhi1.1.cellv (16 + y1) (by omega) _ (by rw [he1])
      have kz1 := hhi1.1.frozen (16 + y1)
      obtain ⟨hf2, hhi2⟩ := hhi1.put hwy1 hy1b (o := 16 + y1) (by omega) he1
      have hhr2 := hhr1.other (p := ⟨g, 16 + y1, none⟩) (.int .u32 ((e1 : Int) + 1)) (show g ≠ H by omega)
      have ho2 := ho1.set_ (p := ⟨g, 16 + y1, none⟩) rfl (.int .u32 ((e1 : Int) + 1))
      have HHI1 := Lib.hid hhi2
      have HHR1 := Lib.hid hhr2
      have HO1 := Lib.hid ho2
      clear hhi1 hhr1 ho1 hhi2 hhr2 ho2 he1
      go_upto_region 43 with fail
      have hhi2 := HHI1.out
      have hhr2 := HHR1.out
      have ho2 := HO1.out
      clear HHI1 HHR1 HO1 kc1 kz1 kx1
      generalize World.setCell wa _ _ = wb at hhi2 hhr2 ho2 ⊢
      have kx2 : wb.cell? ⟨H, 284 + p + 2, none⟩ = some (.int .u8 (x2 : Nat)) := hhr2.cellv (284 + p + 2) (by omega) _ hfx2
      obtain ⟨e2, he2⟩ : ∃ c, hf2 (32 + y2) = c := ⟨_, rfl⟩
      have heb2 : e2 ≤ p + 2 := by rw [← he2]; exact hhi2.le hy2b (by omega)
      have kc2 : wb.cell? ⟨g, 32 + y2, none⟩ = some (.int .u32 (e2 : Nat)) := hhi2.1.cellv (32 + y2) (by omega) _ (by rw [he2])
      have kz2 := hhi2.1.frozen (32 + y2)
      obtain ⟨hf3, hhi3⟩ := hhi2.put hwy2 hy2b (o := 32 + y2) (by omega) he2
      have hhr3 := hhr2.other (p := ⟨g, 32 + y2, none⟩) (.int .u32 ((e2 : Int) + 1)) (show g ≠ H by omega)
      have ho3 := ho2.set_ (p := ⟨g, 32 + y2, none⟩) rfl (.int .u32 ((e2 : Int) + 1))
      have HHI2 := Lib.hid hhi3
      have HHR2 := Lib.hid hhr3
      have HO2 := Lib.hid ho3
      clear hhi2 hhr2 ho2 hhi3 hhr3 ho3 he2
      go_upto_region 44 with fail
      have hhi3 := HHI2.out
      have hhr3 := HHR2.out
      have ho3 := HO2.out
      clear HHI2 HHR2 HO2 kc2 kz2 kx2
      generalize World.setCell wb _ _ = wc at hhi3 hhr3 ho3 ⊢
      have kx3 : wc.cell? ⟨H, 284 + p + 3, none⟩ = some (.int .u8 (x3 : Nat)) := hhr3.cellv (284 + p + 3) (by omega) _ hfx3
      obtain ⟨e3, he3⟩ : ∃ c, hf3 (48 + y3) = c := ⟨_, rfl⟩
      have heb3 : e3 ≤ p + 3 := by rw [← he3]; exact hhi3.le hy3b (by omega)
      have kc3 : wc.cell? ⟨g, 48 + y3, none⟩ = some (.int .u32 (e3 : Nat)) := hhi3.1.cellv (48 + y3) (by omega) _ (by rw [he3])
      have kz3 := hhi3.1.frozen (48 + y3)
      obtain ⟨hf4, hhi4⟩ := hhi3.put hwy3 hy3b (o := 48 + y3) (by omega) he3
      have hhr4 := hhr3.other (p := ⟨g, 48 + y3, none⟩) (.int .u32 ((e3 : Int) + 1)) (show g ≠ H by omega)
      have ho4 := ho3.set_ (p := ⟨g, 48 + y3, none⟩) rfl (.int .u32 ((e3 : Int) + 1))
      have HHI3 := Lib.hid hhi4
      have HHR3 := Lib.hid hhr4
      have HO3 := Lib.hid ho4
      clear hhi3 hhr3 ho3 hhi4 hhr4 ho4 he3
      go_upto_region 45 with fail
      have hhi4 := HHI3.out
      have hhr4 := HHR3.out
      have ho4 := HO3.out
      clear HHI3 HHR3 HO3 kc3 kz3 kx3
      generalize World.setCell wc _ _ = wd at hhi4 hhr4 ho4 ⊢
      have kx0 : wd.cell? ⟨H, 284 + p, none⟩ = some (.int .u8 (x0 : Nat)) := hhr4.cellv (284 + p) (by omega) _ hfx0
      have kx1 : wd.cell? ⟨H, 284 + p + 1, none⟩ = some (.int .u8 (x1 : Nat)) := hhr4.cellv (284 + p + 1) (by omega) _ hfx1
      have kx2 : wd.cell? ⟨H, 284 + p + 2, none⟩ = some (.int .u8 (x2 : Nat)) := hhr4.cellv (284 + p + 2) (by omega) _ hfx2
      have kx3 : wd.cell? ⟨H, 284 + p + 3, none⟩ = some (.int .u8 (x3 : Nat)) := hhr4.cellv (284 + p + 3) (by omega) _ hfx3
      have HHI := Lib.hid hhi4
      have HO := Lib.hid ho4
      clear hhi4 hhr4 ho4
      rename_i K5 K5Q
      have HK5 := Lib.hid K5Q
      clear K5Q
      go_quiet (fail)
      refine HK5.out _ _ ?_
      clear HK5
      go_wp2_with fail
      have hmqe := HMQ.out
      have hcqe := HCQ.out
      refine ⟨⟨p + 4, q4, hf4, by omega, ?_, rfl, HSE.out, ⟨HHI.out.1.drewN nq, HHI.out.2⟩, HO.out.drewN nq⟩, by simp only [sliceLen]; omega⟩
      rw [show 284 + (p + 4) = 284 + p + 4 by omega, show m - (p + 4) = mq - 4 by omega, show 256 - (p + 4) = cq - 4 by omega]
    · have hdec : decide ((4 : Int) ≤ ((m - p : Nat) : Int)) = false := decide_eq_false (by omega)
      have hhr := ho.row HH2.out (show H ≠ g by omega)
      obtain ⟨mq, hmq⟩ : ∃ q, m - p = q := ⟨_, rfl⟩
      rw [hmq] at hdec ⊢
      have HMQ := Lib.hid hmq
      have HSE := Lib.hid hse
      have HHI := Lib.hid hhi
      have HHR := Lib.hid hhr
      have HB3 := Lib.hid (HB2.out.only ho (fun k hk e => by omega))
      clear hmq hse hhi hhr ho
      go_wp2_with fail
      refine HK1.out _ _ ?_
      clear HK1
      go_wp2_with fail
      rename_i K3 K3Q
      have HK3 := Lib.hid K3Q
      clear K3Q
      generalize wr = wq at HHI HHR HB3 ⊢
      go_loopw [15, 255] (H1Rel wq ws g m p) (fun _ v _ => m - (intOf v).toNat)
      case atStart => exact ⟨0, s, h, by omega, rfl, rfl, HSE.out, HHI.out, Only.refl _ _⟩
      case round =>
        obtain ⟨i, t, h2, hle, rfl, rfl, hse2, hhi2, ho2⟩ := hrel
        have hmqe := HMQ.out
        by_cases hlt : i < mq
        · have hdec2 : decide ((i : Int) < (mq : Int)) = true := decide_eq_true (by omega)
          have hii : (i : Int) < (mq : Int) := by omega
          have hhr2 := ho2.row HHR.out (show H ≠ g by omega)
          obtain ⟨x, hx⟩ : ∃ x, wvF ws (p + i) = x := ⟨_, rfl⟩
          have hxb : x < 256 := by rw [← hx]; exact HWB.out (p + i)
          obtain ⟨y, hy⟩ : ∃ y, x % 16 = y := ⟨_, rfl⟩
          have hyb : y < 16 := by omega
          have hwy : wfF ws (p + i) = y := by unfold wfF; rw [hx, hy]
          have an : bits .and .u8 (x : Int) 15 = (y : Nat) := by rw [and8_15 x hxb, hy]
          have yi : (y : Int) < 16 := by omega
          have kx : wr.cell? ⟨H, 284 + p + i, none⟩ = some (.int .u8 (x : Nat)) := hhr2.cellv (284 + p + i) (by omega) _ (by rw [show 284 + p + i = 284 + (p + i) by omega, HW.out (p + i) (by omega), hx])
          obtain ⟨e, he⟩ : ∃ c, h2 y = c := ⟨_, rfl⟩
          have heb : e ≤ p + i := by rw [← he]; exact hhi2.le hyb (by omega)
          have kc : wr.cell? ⟨g, y, none⟩ = some (.int .u32 (e : Nat)) := hhi2.1.cellv y (by omega) _ (by rw [he])
          have kz := hhi2.1.frozen y
          obtain ⟨h3, hhi3⟩ := hhi2.put hwy hyb (o := y) (by omega) he
          have ho3 := ho2.set_ (p := ⟨g, y, none⟩) rfl (.int .u32 ((e : Int) + 1))
          have hse3 := hse2.add hx hxb
          have hor : bits .or .u8 (t : Int) (x : Int) = ((t ||| x : Nat) : Int) := or8 _ _ hse2.1 hxb
          obtain ⟨q, hq⟩ : ∃ q, t ||| x = q := ⟨_, rfl⟩
          rw [hq] at hor hse3
          have HHI3 := Lib.hid hhi3
          have HO3 := Lib.hid ho3
          have HSE3 := Lib.hid hse3
          clear hhi2 ho2 hhi3 ho3 hse3 hse2 hhr2 he hq hwy hx hy hmqe
          go_wp2_with fail
          have hmqe := HMQ.out
          exact ⟨⟨i + 1, q, h3, by omega, rfl, rfl, by rw [show p + (i + 1) = p + i + 1 by omega]; exact HSE3.out, by rw [show p + (i + 1) = p + i + 1 by omega]; exact HHI3.out, HO3.out⟩, by simp [intOf]; omega⟩
        · have hdec2 : decide ((i : Int) < (mq : Int)) = false := decide_eq_false (by omega)
          have hpm2 : p + i = m := by omega
          rw [hpm2] at hse2 hhi2
          have hhr2 := ho2.row HHR.out (show H ≠ g by omega)
          have HHI2 := Lib.hid hhi2
          have HSE2 := Lib.hid hse2
          have HHR2 := Lib.hid hhr2
          have HB4 := Lib.hid (HB3.out.only ho2 (fun k hk e => by omega))
          clear hhi2 hse2 hhr2 ho2 hmqe
          go_wp2_with fail
          refine HK3.out _ _ ?_
          exact rt_s4 HHR2.out HHI2.out.1 HB4.out hBH HHI2.out.2 H265.out H272.out H270.out HW.out hm H0.out hml HSE2.out.1 HSE2.out.2 _ _ _ _ _ _ _ _ _ _ _ _ _ _ _ _ _ _ _ _ _ _ _ _ _ _ _ _ _ _ _ _ _ _ _ _ _ _ _ _ _ _ _ _ _ _ _ _ _ _ _ _ _ _ _ _ _ _ _ _ _ _ _ _ _ _ _ _ _ _ _ _ _ _ _ _ _ _ _ _ _ _ _ _ _ _ _ _ _ _ _ _ _ _ _ _ _ _ _ _ _ _ _ _ _ _ _ _ _ _ _ _ _ _ _ _ _ _ _ _ _ _ _ _ _ _ _ _ _ _ _ _ _ _ _ _ _ _ _ _ _ _ _ _ _ _ _ _ _ _ _ _ _ _ _ _ _ _ _ _ _ _ _ _ _ _ _ _ _ _ _ _ _ _ _ _ _ _ _ _ _ _ _ _ _ _ _ _ _ _ _ _ _ _ _ _ _ _ _ _ _ _ _ _ _ _ _ _ _ _ _ _ _ _ _ _ _ _ _ _ _ _ _ _ _ _ _ _ _ _ _ _ _ _ _ _ _ _ _ _ _ _ _ _ _ _ _ _ _ _ _ _ _ _ _ _ _ _ _ _ _ _ _ _ _ _ _ _ _ _ _ _ _ _ _ _ _ _ _ _ _ _ _ _ _ _ _ _ _ _ _ _ _ _ _ _ _ _ _ _ _ _ _ _ _ _ _ _ _ _ _ _ _ _ _ _ _ _ _ _ _ _ _ _ _ _ _ _ _ _ _ _ _ _ _ _ _ _ _ _ _ _ _ _ _ _ _ _ _ _ _ _ _ _ _ _ _ _ _ _ _ _ _ _ _ _ _ _ _ _ _ _ _ _ _ _ _ _ _ _ _ _ _ _ _ _ _ _ _ _ _ _ _ _ _ _ _ _ _ _ _ _ _ _ _ _ _ _ _ _ _ _ _ _ _ _ _ _ _ _ _ _ _ _ _ _ _ _ _ _ _ _ _ _ _ _ _ _ _ _ _ _ _ _ _ _ _ _ _ _ _ _ _ _ _ _ _ _ _ _ _ _ _ _ _ _ _ _ _ _ _ _ _ _ _ _ _ _ _ _ _ _ _ _ _ _ _ _ _ _ _ _ _ _ _ _ _ _ _ _ _ _ _ _ _ _ _ _ _ _ _ _ _ _ _ _ _ _ _ _ _ _ _ _ _ _ _ _ _ _ _ _ _ _ _ _ _ _ _ _ _ _ _ _ _ _ _ _ _ _ _ _ _ _ _ _ _ _ _ _ Q HERR.out HOK.out
end Go.Proofs.YthkklojjpgjiiaaFmt
