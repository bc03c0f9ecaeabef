/-
  huff0.ReadTable: the sums. Conditions: those of each.
-/
import Derived.Test.YthkklojjpgjiiaaFmtHuffT21
namespace Go.Proofs.YthkklojjpgjiiaaFmt
open Go.RowKit Go.Extern.Stop Go.Stop Go.Extern

noncomputable def rtS4 : Code := cR (cR (cR (cR (cR (cR (cR (cR (cR (cR (cR (cR (((Tryf.f16.body).getD .skip)))))))))))))
/-- the first i sums are laid -/
def SmRel (w0 : World) (Gr : Nat) (c : Nat → Nat) (v : Value) (wr : World) : Prop :=
  ∃ i : Nat, v = .int .i64 (i : Nat) ∧ i ≤ 16 ∧ RowF wr Gr 101 16 (fun k => .int .u32 (if k < i then c k else 0 : Nat)) ∧ Only (· = Gr) w0 wr
def TtRel (w0 : World) (c : Nat → Nat) (v20 v22 : Value) (wr : World) : Prop :=
  ∃ n : Nat, v20 = .int .u32 (pS c (n - 1) : Nat) ∧ v22 = .int .i64 (n : Nat) ∧ 1 ≤ n ∧ n ≤ 16 ∧ wr = w0
theorem row16 (w : World) (T : TypeId) : RowF (w.alloc (.cells #[.int .u32 0, .int .u32 0, .int .u32 0, .int .u32 0, .int .u32 0, .int .u32 0, .int .u32 0, .int .u32 0, .int .u32 0, .int .u32 0, .int .u32 0, .int .u32 0, .int .u32 0, .int .u32 0, .int .u32 0, .int .u32 0] T)) w.heap.size T 16 (fun _ => .int .u32 0) := by
  refine RowF.new w #[.int .u32 0, .int .u32 0, .int .u32 0, .int .u32 0, .int .u32 0, .int .u32 0, .int .u32 0, .int .u32 0, .int .u32 0, .int .u32 0, .int .u32 0, .int .u32 0, .int .u32 0, .int .u32 0, .int .u32 0, .int .u32 0] T _ fun k hk => ?_
  have h : (#[.int .u32 0, .int .u32 0, .int .u32 0, .int .u32 0, .int .u32 0, .int .u32 0, .int .u32 0, .int .u32 0, .int .u32 0, .int .u32 0, .int .u32 0, .int .u32 0, .int .u32 0, .int .u32 0, .int .u32 0, .int .u32 0] : Array Value) = Array.replicate 16 (.int .u32 0) := rfl
  rw [h] at hk ⊢
  simp at hk
  simp [hk]
set_option maxRecDepth 100000 in
set_option maxHeartbeats 6400000 in
theorem rt_s4 {w0 wr : World} {B H Hs m sn : Nat} {ws : List Int} {f : Nat → Value} {h : Nat → Nat} {A0 : Option Addr} {n0 c0 : Nat} (hh : RowF wr H 58 540 f) (hs : RowF wr Hs 102 64 (fun k => .int .u32 (h k : Nat))) (hbl : Bl w0 B wr) (hBH : B ≤ H) (hsum : ∀ i, i < 16 → h i + h (16 + i) + h (32 + i) + h (48 + i) = cnt (wfF ws) m i) (h265 : f 265 = .int .u16 (m : Nat)) (h272 : f 272 = .slice none 0 0) (h270 : f 270 = .slice none 0 0)
    (hw : ∀ k, k < m → f (284 + k) = .int .u8 (wvF ws k : Nat)) (hm : m ≤ 255) (h0 : ∀ x ∈ ws, 0 ≤ x) (hml : ws.length = m) (hsn : sn < 256) (hseen : sn ≤ 15 ↔ ∀ k, k < m → wvF ws k ≤ 15)
    (u2 u3 u4 u5 u6 u7 u8 u9 u10 u11 u12 u13 u16 u17 u18 u19 u20 u21 u22 u23 u24 u25 u26 u27 u28 u29 u30 u31 u32 u33 u34 u35 u36 u37 u38 u39 u40 u41 u42 u43 u44 u45 u46 u47 u48 u49 u50 u51 u52 u53 u54 u55 u56 u57 u58 u59 u60 u61 u62 u63 u64 u65 u66 u67 u68 u69 u70 u71 u72 u73 u74 u75 u76 u77 u78 u79 u80 u81 u82 u83 u84 u85 u86 u87 u88 u89 u90 u91 u92 u93 u94 u95 u96 u97 u98 u99 u100 u101 u102 u103 u104 u105 u106 u107 u108 u109 u110 u111 u112 u113 u114 u115 u116 u117 u118 u119 u120 u121 u122 u123 u124 u125 u126 u127 u128 u129 u130 u131 u132 u133 u134 u135 u136 u137 u138 u139 u140 u141 u142 u143 u144 u145 u146 u147 u148 u149 u150 u151 u152 u153 u154 u155 u156 u157 u158 u159 u160 u161 u162 u163 u164 u165 u166 u167 u168 u169 u170 u171 u172 u173 u174 u175 u176 u177 u178 u179 u180 u181 u182 u183 u184 u185 u186 u187 u188 u189 u190 u191 u192 u193 u194 u195 u196 u197 u198 u199 u200 u201 u202 u203 u204 u205 u206 u207 u208 u209 u210 u211 u212 u213 u214 u215 u216 u217 u218 u219 u220 u221 u222 u223 u224 u225 u226 u227 u228 u229 u230 u231 u232 u233 u234 u235 u236 u237 u238 u239 u240 u241 u242 u243 u244 u245 u246 u247 u248 u249 u250 u251 u252 u253 u254 u255 u256 u257 u258 u259 u260 u261 u262 u263 u264 u265 u266 u267 u268 u269 u270 u271 u272 u273 u274 u275 u276 u277 u278 u279 u280 u281 u282 u283 u284 u285 u286 u287 u288 u289 u290 u291 u292 u293 u294 u295 u296 u297 u298 u299 u300 u301 u302 u303 u304 u305 u306 u307 u308 u309 u310 u311 u312 u313 u314 u315 u316 u317 u318 u319 u320 u321 u322 u323 u324 u325 u326 u327 u328 u329 u330 u331 u332 u333 u334 u335 u336 u337 u338 u339 u340 u341 u342 u343 u344 u345 u346 u347 u348 u349 u350 u351 u352 u353 u354 u355 u356 u357 u358 u359 u360 u361 u362 u363 u364 u365 u366 u367 u368 u369 u370 u371 u372 u373 u374 u375 u376 u377 u378 u379 u380 u381 u382 u383 u384 u385 u386 u387 u388 u389 u390 u391 u392 u393 u394 u395 u396 u397 u398 u399 u400 u401 u402 u403 u404 u405 u406 u407 u408 u409 u410 u411 u412 u413 u414 u415 u416 u417 u418 u419 u420 u421 u422 u423 u424 u425 u426 u427 u428 u429 u430 u431 u432 u433 u434 u435 u436 u437 u438 u439 u440 u441 u442 u443 u444 u445 u446 u447 u448 u449 u450 u451 u452 u453 u454 u455 u456 u457 u458 u459 u460 u461 u462 u463 u464 u465 u466 u467 u468 u469 u470 u471 u472 u473 u474 u475 u476 u477 u478 u479 u480 u481 u482 u483 u484 u485 u486 u487 u488 u489 u490 u491 u492 u493 u494 u495 u496 u497 u498 u499 u500 u501 u502 u503 u504 u505 u506 u507 u508 u509 u510 u511 u512 u513 u514 u515 u516 u517 u518 u519 u520 u521 u522 u523 u524 u525 u526 u527 u528 u529 u530 u531 u532 u533 u534 u535 u536 u537 u538 u539 u540 u541 u542 u543 u544 u545 u546 u547 u548 u549 u550 u551 u552 u553 u554 u555 u556 u557 u558 u559 u560 u561 u562 u563 : Value) (Q : Exit → Act → World → Prop) (hErr : clsF ws ≠ 0 → ∀ F' w' b, RtE (.pointer (some ⟨H, 0, none⟩)) (.slice none 0 0) (.iface 107 (.pointer (some ⟨b, 0, none⟩))) F' → Bl w0 B w' → Q .ret F' w') (hOk : clsF ws = 0 → ∀ F' w', RtE (.pointer (some ⟨H, 0, none⟩)) (.slice A0 n0 c0) .nilIface F' → Bl w0 B w' → Q .ret F' w') :
    Code.wp Tryf.prog rtS4 Q ⟨#[.slice A0 n0 c0, .pointer (some ⟨H, 0, none⟩), u2, u3, u4, u5, u6, u7, u8, u9, u10, u11, u12, u13, .pointer (some ⟨Hs, 0, none⟩), .int .u8 (sn : Nat), u16, u17, u18, u19, u20, u21, u22, u23, u24, u25, u26, u27, u28, u29, u30, u31, u32, u33, u34, u35, u36, u37, u38, u39, u40, u41, u42, u43, u44, u45, u46, u47, u48, u49, u50, u51, u52, u53, u54, u55, u56, u57, u58, u59, u60, u61, u62, u63, u64, u65, u66, u67, u68, u69, u70, u71, u72, u73, u74, u75, u76, u77, u78, u79, u80, u81, u82, u83, u84, u85, u86, u87, u88, u89, u90, u91, u92, u93, u94, u95, u96, u97, u98, u99, u100, u101, u102, u103, u104, u105, u106, u107, u108, u109, u110, u111, u112, u113, u114, u115, u116, u117, u118, u119, u120, u121, u122, u123, u124, u125, u126, u127, u128, u129, u130, u131, u132, u133, u134, u135, u136, u137, u138, u139, u140, u141, u142, u143, u144, u145, u146, u147, u148, u149, u150, u151, u152, u153, u154, u155, u156, u157, u158, u159, u160, u161, u162, u163, u164, u165, u166, u167, u168, u169, u170, u171, u172, u173, u174, u175, u176, u177, u178, u179, u180, u181, u182, u183, u184, u185, u186, u187, u188, u189, u190, u191, u192, u193, u194, u195, u196, u197, u198, u199, u200, u201, u202, u203, u204, u205, u206, u207, u208, u209, u210, u211, u212, u213, u214, u215, u216, u217, u218, u219, u220, u221, u222, u223, u224, u225, u226, u227, u228, u229, u230, u231, u232, u233, u234, u235, u236, u237, u238, u239, u240, u241, u242, u243, u244, u245, u246, u247, u248, u249, u250, u251, u252, u253, u254, u255, u256, u257, u258, u259, u260, u261, u262, u263, u264, u265, u266, u267, u268, u269, u270, u271, u272, u273, u274, u275, u276, u277, u278, u279, u280, u281, u282, u283, u284, u285, u286, u287, u288, u289, u290, u291, u292, u293, u294, u295, u296, u297, u298, u299, u300, u301, u302, u303, u304, u305, u306, u307, u308, u309, u310, u311, u312, u313, u314, u315, u316, u317, u318, u319, u320, u321, u322, u323, u324, u325, u326, u327, u328, u329, u330, u331, u332, u333, u334, u335, u336, u337, u338, u339, u340, u341, u342, u343, u344, u345, u346, u347, u348, u349, u350, u351, u352, u353, u354, u355, u356, u357, u358, u359, u360, u361, u362, u363, u364, u365, u366, u367, u368, u369, u370, u371, u372, u373, u374, u375, u376, u377, u378, u379, u380, u381, u382, u383, u384, u385, u386, u387, u388, u389, u390, u391, u392, u393, u394, u395, u396, u397, u398, u399, u400, u401, u402, u403, u404, u405, u406, u407, u408, u409, u410, u411, u412, u413, u414, u415, u416, u417, u418, u419, u420, u421, u422, u423, u424, u425, u426, u427, u428, u429, u430, u431, u432, u433, u434, u435, u436, u437, u438, u439, u440, u441, u442, u443, u444, u445, u446, u447, u448, u449, u450, u451, u452, u453, u454, u455, u456, u457, u458, u459, u460, u461, u462, u463, u464, u465, u466, u467, u468, u469, u470, u471, u472, u473, u474, u475, u476, u477, u478, u479, u480, u481, u482, u483, u484, u485, u486, u487, u488, u489, u490, u491, u492, u493, u494, u495, u496, u497, u498, u499, u500, u501, u502, u503, u504, u505, u506, u507, u508, u509, u510, u511, u512, u513, u514, u515, u516, u517, u518, u519, u520, u521, u522, u523, u524, u525, u526, u527, u528, u529, u530, u531, u532, u533, u534, u535, u536, u537, u538, u539, u540, u541, u542, u543, u544, u545, u546, u547, u548, u549, u550, u551, u552, u553, u554, u555, u556, u557, u558, u559, u560, u561, u562, u563], []⟩ wr := by
  conv => arg 2; whnf
  have HH := Lib.hid hh
  have HS := Lib.hid hs
  have HERR := Lib.hid hErr
  have HOK := Lib.hid hOk
  have HSUM := Lib.hid hsum
  have H265 := Lib.hid h265
  have H272 := Lib.hid h272
  have H270 := Lib.hid h270
  have HW := Lib.hid hw
  have H0 := Lib.hid h0
  have HSE := Lib.hid hseen
  have hl1 := hh.lt
  have hl2 := hs.lt
  have HBL := Lib.hid hbl
  clear hh hs hErr hOk hsum h265 h272 h270 hw h0 hseen hbl
  go_upto_region 53 with fail
  rename_i K0 K0Q
  have HK0 := Lib.hid K0Q
  clear K0Q
  have hg1 := row16 wr 101
  have hh1 := HH.out.alloc (.cells #[.int .u32 0, .int .u32 0, .int .u32 0, .int .u32 0, .int .u32 0, .int .u32 0, .int .u32 0, .int .u32 0, .int .u32 0, .int .u32 0, .int .u32 0, .int .u32 0, .int .u32 0, .int .u32 0, .int .u32 0, .int .u32 0] 101)
  have hs1 := HS.out.alloc (.cells #[.int .u32 0, .int .u32 0, .int .u32 0, .int .u32 0, .int .u32 0, .int .u32 0, .int .u32 0, .int .u32 0, .int .u32 0, .int .u32 0, .int .u32 0, .int .u32 0, .int .u32 0, .int .u32 0, .int .u32 0, .int .u32 0] 101)
  have hb1 := HBL.out.alloc (.cells #[.int .u32 0, .int .u32 0, .int .u32 0, .int .u32 0, .int .u32 0, .int .u32 0, .int .u32 0, .int .u32 0, .int .u32 0, .int .u32 0, .int .u32 0, .int .u32 0, .int .u32 0, .int .u32 0, .int .u32 0, .int .u32 0] 101)
  obtain ⟨g, hg⟩ : ∃ g, wr.heap.size = g := ⟨_, rfl⟩
  have hBg : B ≤ g := by rw [← hg]; exact HBL.out.size
  rw [hg] at hg1 hl1 hl2 ⊢
  generalize World.alloc wr _ = w1 at hg1 hh1 hs1 hb1 ⊢
  have HB1 := Lib.hid hb1
  clear hb1
  have HH1 := Lib.hid hh1
  have HS1 := Lib.hid hs1
  have HG1 := Lib.hid hg1
  clear hh1 hs1 hg1 hg
  go_wp2_with fail
  refine HK0.out _ _ ?_
  clear HK0
  go_wp2_with fail
  rename_i K1 K1Q
  have HK1 := Lib.hid K1Q
  clear K1Q
  go_loopw [271] (SmRel w1 g (cnt (wfF ws) m)) (fun v _ => 16 - (intOf v).toNat)
  case atStart => exact ⟨0, rfl, by omega, HG1.out.congr fun k _ => by rw [if_neg (by omega)]; rfl, Only.refl _ _⟩
  case round =>
    obtain ⟨i, rfl, hi, hg, ho⟩ := hrel
    by_cases hlt : i < 16
    · have hdec : decide ((i : Int) < 16) = true := decide_eq_true (by omega)
      have hii : (i : Int) < 16 := by omega
      have hsr := ho.row HS1.out (show Hs ≠ g by omega)
      obtain ⟨a, ha⟩ : ∃ a, h i = a := ⟨_, rfl⟩
      obtain ⟨b, hb⟩ : ∃ b, h (16 + i) = b := ⟨_, rfl⟩
      obtain ⟨c, hc⟩ : ∃ c, h (32 + i) = c := ⟨_, rfl⟩
      obtain ⟨d, hd⟩ : ∃ d, h (48 + i) = d := ⟨_, rfl⟩
      have hsm := HSUM.out i hlt
      have hcb := cnt_bound (wfF ws) m i
      rw [ha, hb, hc, hd] at hsm
      have k0 : wr.cell? ⟨Hs, i, none⟩ = some (.int .u32 (a : Nat)) := hsr.cellv i (by omega) _ (by rw [ha])
      have k1 : wr.cell? ⟨Hs, 16 + i, none⟩ = some (.int .u32 (b : Nat)) := hsr.cellv _ (by omega) _ (by rw [hb])
      have k2 : wr.cell? ⟨Hs, 32 + i, none⟩ = some (.int .u32 (c : Nat)) := hsr.cellv _ (by omega) _ (by rw [hc])
      have k3 : wr.cell? ⟨Hs, 48 + i, none⟩ = some (.int .u32 (d : Nat)) := hsr.cellv _ (by omega) _ (by rw [hd])
      have w1' : IntKind.u32.wrap ((a : Int) + (b : Int)) = ((a + b : Nat) : Int) := by simp [IntKind.wrap, IntKind.bits, IntKind.signed]; omega
      have w2' : IntKind.u32.wrap (((a + b : Nat) : Int) + (c : Int)) = ((a + b + c : Nat) : Int) := by simp [IntKind.wrap, IntKind.bits, IntKind.signed]; omega
      have w3' : IntKind.u32.wrap (((a + b + c : Nat) : Int) + (d : Int)) = ((a + b + c + d : Nat) : Int) := by simp [IntKind.wrap, IntKind.bits, IntKind.signed]; omega
      obtain ⟨s1, hs1⟩ : ∃ s, a + b = s := ⟨_, rfl⟩
      rw [hs1] at w1' w2' w3'
      obtain ⟨s2, hs2⟩ : ∃ s, s1 + c = s := ⟨_, rfl⟩
      rw [hs2] at w2' w3'
      obtain ⟨s3, hs3⟩ : ∃ s, s2 + d = s := ⟨_, rfl⟩
      rw [hs3] at w3'
      have hs4 : s3 = cnt (wfF ws) m i := by omega
      have cg := hg.cell i (by omega)
      have zg := hg.frozen i
      have HGG := Lib.hid hg
      have HO := Lib.hid ho
      have HS4 := Lib.hid hs4
      clear hg ho hs4 hs1 hs2 hs3 ha hb hc hd hsm hsr
      go_upto_region 57 with fail
      rename_i K7 K7Q
      have HK7 := Lib.hid K7Q
      clear K7Q
      refine wp_region_noPanic ?_
      refine wp_region_quiet_tail 21 (by kernel_rfl) (by kernel_rfl) ?_
      simp only [List.take_succ_cons, List.take_zero, List.drop_succ_cons, List.drop_zero]
      repeat (go_big_quiet_step (fail))
      refine wpQuiet_nil ?_
      go_wp2_with fail
      refine NoPanic.normal (HK7.out _ _ ?_)
      clear HK7
      go_wp2_with fail
      refine ⟨⟨i + 1, rfl, by omega, ((HGG.out.drewN 1).set_ i (.int .u32 (s3 : Nat))).congr fun k hk => ?_, (HO.out.drewN 1).set_ (p := ⟨g, i, none⟩) rfl _⟩, by simp [intOf]; omega⟩
      unfold updV
      dsimp only
      by_cases e : k = i
      · subst e
        rw [if_pos rfl, if_pos (by omega), HS4.out]
      · rw [if_neg e]
        by_cases e2 : k < i
        · rw [if_pos e2, if_pos (by omega)]
        · rw [if_neg e2, if_neg (by omega)]
    · have hdec : decide ((i : Int) < 16) = false := decide_eq_false (by omega)
      have hi16 : i = 16 := by omega
      subst hi16
      have hg2 : RowF wr g 101 16 (fun k => .int .u32 (cnt (wfF ws) m k : Nat)) := hg.congr fun k hk => by rw [if_pos hk]
      have hh2 := ho.row HH1.out (show H ≠ g by omega)
      have HB2 := Lib.hid (HB1.out.only ho (fun k hk e => by omega))
      have HG2 := Lib.hid hg2
      have HH2 := Lib.hid hh2
      clear hg ho hg2 hh2
      go_wp2_with fail
      refine HK1.out _ _ ?_
      clear HK1
      go_wp2_with fail
      rename_i K3 K3Q
      have HK3 := Lib.hid K3Q
      clear K3Q
      generalize wr = wz at HG2 HH2 HB2 ⊢
      go_loopw [20, 22] (TtRel wz (cnt (wfF ws) m)) (fun _ v _ => 16 - (intOf v).toNat)
      case atStart => exact ⟨1, rfl, rfl, by omega, by omega, rfl⟩
      case round =>
        obtain ⟨n, rfl, rfl, hn1, hn2, hwz⟩ := hrel
        subst hwz
        by_cases hlt2 : n < 16
        · have hdec2 : decide ((n : Int) < 16) = true := decide_eq_true (by omega)
          have hn16 : (n : Int) < 16 := by omega
          obtain ⟨cn, hcn⟩ : ∃ cn, cnt (wfF ws) m n = cn := ⟨_, rfl⟩
          obtain ⟨P, hP⟩ : ∃ P, pS (cnt (wfF ws) m) (n - 1) = P := ⟨_, rfl⟩
          obtain ⟨q, hq⟩ : ∃ q, cn * 2 ^ (n - 1) = q := ⟨_, rfl⟩
          have hPn : pS (cnt (wfF ws) m) n = P + q := by
            obtain ⟨j, rfl⟩ : ∃ j, n = j + 1 := ⟨n - 1, by omega⟩
            simp only [Nat.add_sub_cancel] at hP hq
            show pS (cnt (wfF ws) m) j + cnt (wfF ws) m (j + 1) * 2 ^ j = _
            rw [hP, hcn, hq]
          have hPb : P + q ≤ 8355840 := by
            rw [← hPn]
            refine Nat.le_trans (pS_mono _ (show n ≤ 15 by omega)) (Nat.le_trans (pS_bound (wfF ws) m 15) ?_)
            exact Nat.le_trans (Nat.mul_le_mul_right _ hm) (by decide)
          have kn : _root_.Go.World.cell? _ ⟨g, n, none⟩ = some (.int .u32 (cn : Nat)) := HG2.out.cellv n (by omega) _ (by rw [hcn])
          rw [hP]
          have hshl : (cn : Int) * 2 ^ (n - 1) % 4294967296 = (q : Nat) := by
            have e2 : (cn : Int) * 2 ^ (n - 1) = ((cn * 2 ^ (n - 1) : Nat) : Int) := by simp
            rw [e2, hq]
            omega
          have hPq : (P : Int) + (q : Int) ≤ 8355840 := by omega
          have HPN := Lib.hid hPn
          clear hPn hP hq hcn hPb
          go_wp2_with fail
          refine ⟨⟨n + 1, ?_, rfl, by omega, by omega, rfl⟩, by simp [intOf]; omega⟩
          rw [Nat.add_sub_cancel, HPN.out]
          rfl
        · have hdec2 : decide ((n : Int) < 16) = false := decide_eq_false (by omega)
          have hn16 : n = 16 := by omega
          subst hn16
          go_wp2_with fail
          refine HK3.out _ _ ?_
          exact rt_s5 HH2.out HG2.out (show H ≠ g by omega) HB2.out hBH hBg H265.out H272.out H270.out HW.out hm H0.out hml rfl hsn HSE.out _ _ _ _ _ _ _ _ _ _ _ _ _ _ _ _ _ _ _ _ _ _ _ _ _ _ _ _ _ _ _ _ _ _ _ _ _ _ _ _ _ _ _ _ _ _ _ _ _ _ _ _ _ _ _ _ _ _ _ _ _ _ _ _ _ _ _ _ _ _ _ _ _ _ _ _ _ _ _ _ _ _ _ _ _ _ _ _ _ _ _ _ _ _ _ _ _ _ _ _ _ _ _ _ _ _ _ _ _ _ _ _ _ _ _ _ _ _ _ _ _ _ _ _ _ _ _ _ _ _ _ _ _ _ _ _ _ _ _ _ _ _ _ _ _ _ _ _ _ _ _ _ _ _ _ _ _ _ _ _ _ _ _ _ _ _ _ _ _ _ _ _ _ _ _ _ _ _ _ _ _ _ _ _ _ _ _ _ _ _ _ _ _ _ _ _ _ _ _ _ _ _ _ _ _ _ _ _ _ _ _ _ _ _ _ _ _ _ _ _ _ _ _ _ _ _ _ _ _ _ _ _ _ _ _ _ _ _ _ _ _ _ _ _ _ _ _ _ _ _ _ _ _ _ _ _ _ _ _ _ _ _ _ _ _ _ _ _ _ _ _ _ _ _ _ _ _ _ _ _ _ _ _ _ _ _ _ _ _ _ _ _ _ _ _ _ _ _ _ _ _ _ _ _ _ _ _ _ _ _ _ _ _ _ _ _ _ _ _ _ _ _ _ _ _ _ _ _ _ _ _ _ _ _ _ _ _ _ _ _ _ _ _ _ _ _ _ _ _ _ _ _ _ _ _ _ _ _ _ _ _ _ _ _ _ _ _ _ _ _ _ _ _ _ _ _ _ _ _ _ _ _ _ _ _ _ _ _ _ _ _ _ _ _ _ _ _ _ _ _ _ _ _ _ _ _ _ _ _ _ _ _ _ _ _ _ _ _ _ _ _ _ _ _ _ _ _ _ _ _ _ _ _ _ _ _ _ _ _ _ _ _ _ _ _ _ _ _ _ _ _ _ _ _ _ _ _ _ _ _ _ _ _ _ _ _ _ _ _ _ _ _ _ _ _ _ _ _ _ _ _ _ _ _ _ _ _ _ _ _ _ _ _ _ _ _ _ _ _ _ _ _ _ _ _ _ _ _ _ _ _ _ _ _ _ _ _ _ _ _ _ _ _ _ _ _ _ _ _ _ _ _ _ _ _ _ _ _ _ _ _ _ _ _ _ _ _ _ _ _ _ _ _ _ _ _ _ _ _ Q HERR.out HOK.out
end Go.Proofs.YthkklojjpgjiiaaFmt
