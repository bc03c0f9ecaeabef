/-
  huff0.ReadTable: the last weight. Conditions: those of each.
-/
import Derived.Test.YthkklojjpgjiiaaFmtHuffT19
import Derived.Test.YthkklojjpgjiiaaFmtHuffT07
namespace Go.Proofs.YthkklojjpgjiiaaFmt
open Go.RowKit Go.Extern.Stop Go.Stop Go.Extern

noncomputable def rtS5b : Code := cR (cR (cR (cR (cR (cR (cR (cR (cR (cR (cR (cR (cR (cR (cR (cR (cR (cR (((Tryf.f16.body).getD .skip)))))))))))))))))))
/-- the weights with the last one -/
def wlF (ws : List Int) (m K : Nat) : Nat → Nat := fun k => if k = m then K + 1 else wvF ws k
theorem wl_cnt (ws : List Int) (m K i : Nat) (hb : ∀ k, k < m → wvF ws k ≤ 11) : cnt (wlF ws m K) (m + 1) i = cwF ws m K i := by
  rw [cnt_succ]
  unfold cwF
  rw [cnt_congr (g := wfF ws) m i (fun k hk => by unfold wlF wfF; rw [if_neg (by omega)]; have := hb k hk; omega)]
  congr 1
  unfold wlF
  rw [if_pos rfl]
theorem two_pow_i (k : Nat) (v : Nat) (h : 2 ^ k = v) (hv : v < 4294967296) : (2 : Int) ^ k % 4294967296 = (v : Nat) := by
  have e2 : (2 : Int) ^ k = ((2 ^ k : Nat) : Int) := by simp
  rw [e2, h]
  omega
set_option maxRecDepth 100000 in
set_option maxHeartbeats 6400000 in
theorem rt_s5b {w0 wr : World} {B H Gr m T : Nat} {ws : List Int} {f : Nat → Value} {A0 : Option Addr} {n0 c0 : Nat} (hh : RowF wr H 58 540 f) (hg : RowF wr Gr 101 16 (fun i => .int .u32 (cnt (wfF ws) m i : Nat))) (hne : H ≠ Gr) (hbl : Bl w0 B wr) (hBH : B ≤ H) (hBG : B ≤ Gr) (h265 : f 265 = .int .u16 (m : Nat)) (h272 : f 272 = .slice none 0 0) (h270 : f 270 = .slice none 0 0)
    (hw : ∀ k, k < m → f (284 + k) = .int .u8 (wvF ws k : Nat)) (hm : m ≤ 255) (h0 : ∀ x ∈ ws, 0 ≤ x) (hml : ws.length = m) (hb : ∀ k, k < m → wvF ws k ≤ 11) (hT : pS (cnt (wfF ws) m) 15 = T) (hT0 : T ≠ 0) (hTb : T ≤ 1000000)
    (u2 u3 u4 u5 u6 u7 u8 u9 u10 u11 u12 u13 u14 u15 u16 u17 u18 u21 u22 u23 u24 u25 u26 u27 u28 u29 u30 u31 u32 u33 u34 u35 u36 u37 u38 u39 u40 u41 u42 u43 u44 u45 u46 u47 u48 u49 u50 u51 u52 u53 u54 u55 u56 u57 u58 u59 u60 u61 u62 u63 u64 u65 u66 u67 u68 u69 u70 u71 u72 u73 u74 u75 u76 u77 u78 u79 u80 u81 u82 u83 u84 u85 u86 u87 u88 u89 u90 u91 u92 u93 u94 u95 u96 u97 u98 u99 u100 u101 u102 u103 u104 u105 u106 u107 u108 u109 u110 u111 u112 u113 u114 u115 u116 u117 u118 u119 u120 u121 u122 u123 u124 u125 u126 u127 u128 u129 u130 u131 u132 u133 u134 u135 u136 u137 u138 u139 u140 u141 u142 u143 u144 u145 u146 u147 u148 u149 u150 u151 u152 u153 u154 u155 u156 u157 u158 u159 u160 u161 u162 u163 u164 u165 u166 u167 u168 u169 u170 u171 u172 u173 u174 u175 u176 u177 u178 u179 u180 u181 u182 u183 u184 u185 u186 u187 u188 u189 u190 u191 u192 u193 u194 u195 u196 u197 u198 u199 u200 u201 u202 u203 u204 u205 u206 u207 u208 u209 u210 u211 u212 u213 u214 u215 u216 u217 u218 u219 u220 u221 u222 u223 u224 u225 u226 u227 u228 u229 u230 u231 u232 u233 u234 u235 u236 u237 u238 u239 u240 u241 u242 u243 u244 u245 u246 u247 u248 u249 u250 u251 u252 u253 u254 u255 u256 u257 u258 u259 u260 u261 u262 u263 u264 u265 u266 u267 u268 u269 u270 u271 u272 u273 u274 u275 u276 u277 u278 u279 u280 u281 u282 u283 u284 u285 u286 u287 u288 u289 u290 u291 u292 u293 u294 u295 u296 u297 u298 u299 u300 u301 u302 u303 u304 u305 u306 u307 u308 u309 u310 u311 u312 u313 u314 u315 u316 u317 u318 u319 u320 u321 u322 u323 u324 u325 u326 u327 u328 u329 u330 u331 u332 u333 u334 u335 u336 u337 u338 u339 u340 u341 u342 u343 u344 u345 u346 u347 u348 u349 u350 u351 u352 u353 u354 u355 u356 u357 u358 u359 u360 u361 u362 u363 u364 u365 u366 u367 u368 u369 u370 u371 u372 u373 u374 u375 u376 u377 u378 u379 u380 u381 u382 u383 u384 u385 u386 u387 u388 u389 u390 u391 u392 u393 u394 u395 u396 u397 u398 u399 u400 u401 u402 u403 u404 u405 u406 u407 u408 u409 u410 u411 u412 u413 u414 u415 u416 u417 u418 u419 u420 u421 u422 u423 u424 u425 u426 u427 u428 u429 u430 u431 u432 u433 u434 u435 u436 u437 u438 u439 u440 u441 u442 u443 u444 u445 u446 u447 u448 u449 u450 u451 u452 u453 u454 u455 u456 u457 u458 u459 u460 u461 u462 u463 u464 u465 u466 u467 u468 u469 u470 u471 u472 u473 u474 u475 u476 u477 u478 u479 u480 u481 u482 u483 u484 u485 u486 u487 u488 u489 u490 u491 u492 u493 u494 u495 u496 u497 u498 u499 u500 u501 u502 u503 u504 u505 u506 u507 u508 u509 u510 u511 u512 u513 u514 u515 u516 u517 u518 u519 u520 u521 u522 u523 u524 u525 u526 u527 u528 u529 u530 u531 u532 u533 u534 u535 u536 u537 u538 u539 u540 u541 u542 u543 u544 u545 u546 u547 u548 u549 u550 u551 u552 u553 u554 u555 u556 u557 u558 u559 u560 u561 u562 u563 : Value) (Q : Exit → Act → World → Prop) (hErr : clsF ws ≠ 0 → ∀ F' w' b, RtE (.pointer (some ⟨H, 0, none⟩)) (.slice none 0 0) (.iface 107 (.pointer (some ⟨b, 0, none⟩))) F' → Bl w0 B w' → Q .ret F' w') (hOk : clsF ws = 0 → ∀ F' w', RtE (.pointer (some ⟨H, 0, none⟩)) (.slice A0 n0 c0) .nilIface F' → Bl w0 B w' → Q .ret F' w') :
    Code.wp Tryf.prog rtS5b Q ⟨#[.slice A0 n0 c0, .pointer (some ⟨H, 0, none⟩), u2, u3, u4, u5, u6, u7, u8, u9, u10, u11, u12, u13, u14, u15, u16, u17, u18, .pointer (some ⟨Gr, 0, none⟩), .int .u32 (T : Nat), u21, u22, u23, u24, u25, u26, u27, u28, u29, u30, u31, u32, u33, u34, u35, u36, u37, u38, u39, u40, u41, u42, u43, u44, u45, u46, u47, u48, u49, u50, u51, u52, u53, u54, u55, u56, u57, u58, u59, u60, u61, u62, u63, u64, u65, u66, u67, u68, u69, u70, u71, u72, u73, u74, u75, u76, u77, u78, u79, u80, u81, u82, u83, u84, u85, u86, u87, u88, u89, u90, u91, u92, u93, u94, u95, u96, u97, u98, u99, u100, u101, u102, u103, u104, u105, u106, u107, u108, u109, u110, u111, u112, u113, u114, u115, u116, u117, u118, u119, u120, u121, u122, u123, u124, u125, u126, u127, u128, u129, u130, u131, u132, u133, u134, u135, u136, u137, u138, u139, u140, u141, u142, u143, u144, u145, u146, u147, u148, u149, u150, u151, u152, u153, u154, u155, u156, u157, u158, u159, u160, u161, u162, u163, u164, u165, u166, u167, u168, u169, u170, u171, u172, u173, u174, u175, u176, u177, u178, u179, u180, u181, u182, u183, u184, u185, u186, u187, u188, u189, u190, u191, u192, u193, u194, u195, u196, u197, u198, u199, u200, u201, u202, u203, u204, u205, u206, u207, u208, u209, u210, u211, u212, u213, u214, u215, u216, u217, u218, u219, u220, u221, u222, u223, u224, u225, u226, u227, u228, u229, u230, u231, u232, u233, u234, u235, u236, u237, u238, u239, u240, u241, u242, u243, u244, u245, u246, u247, u248, u249, u250, u251, u252, u253, u254, u255, u256, u257, u258, u259, u260, u261, u262, u263, u264, u265, u266, u267, u268, u269, u270, u271, u272, u273, u274, u275, u276, u277, u278, u279, u280, u281, u282, u283, u284, u285, u286, u287, u288, u289, u290, u291, u292, u293, u294, u295, u296, u297, u298, u299, u300, u301, u302, u303, u304, u305, u306, u307, u308, u309, u310, u311, u312, u313, u314, u315, u316, u317, u318, u319, u320, u321, u322, u323, u324, u325, u326, u327, u328, u329, u330, u331, u332, u333, u334, u335, u336, u337, u338, u339, u340, u341, u342, u343, u344, u345, u346, u347, u348, u349, u350, u351, u352, u353, u354, u355, u356, u357, u358, u359, u360, u361, u362, u363, u364, u365, u366, u367, u368, u369, u370, u371, u372, u373, u374, u375, u376, u377, u378, u379, u380, u381, u382, u383, u384, u385, u386, u387, u388, u389, u390, u391, u392, u393, u394, u395, u396, u397, u398, u399, u400, u401, u402, u403, u404, u405, u406, u407, u408, u409, u410, u411, u412, u413, u414, u415, u416, u417, u418, u419, u420, u421, u422, u423, u424, u425, u426, u427, u428, u429, u430, u431, u432, u433, u434, u435, u436, u437, u438, u439, u440, u441, u442, u443, u444, u445, u446, u447, u448, u449, u450, u451, u452, u453, u454, u455, u456, u457, u458, u459, u460, u461, u462, u463, u464, u465, u466, u467, u468, u469, u470, u471, u472, u473, u474, u475, u476, u477, u478, u479, u480, u481, u482, u483, u484, u485, u486, u487, u488, u489, u490, u491, u492, u493, u494, u495, u496, u497, u498, u499, u500, u501, u502, u503, u504, u505, u506, u507, u508, u509, u510, u511, u512, u513, u514, u515, u516, u517, u518, u519, u520, u521, u522, u523, u524, u525, u526, u527, u528, u529, u530, u531, u532, u533, u534, u535, u536, u537, u538, u539, u540, u541, u542, u543, u544, u545, u546, u547, u548, u549, u550, u551, u552, u553, u554, u555, u556, u557, u558, u559, u560, u561, u562, u563], []⟩ wr := by
  conv => arg 2; whnf
  obtain ⟨L, hL⟩ : ∃ L, T.log2 + 1 = L := ⟨_, rfl⟩
  have hcr := cls_rest h0 hml hb hT
  rw [hL, if_neg hT0] at hcr
  have KH := Lib.hid (highBit32_any T wr hT0 hTb T rfl)
  obtain ⟨lg, hlg⟩ : ∃ lg, T.log2 = lg := ⟨_, rfl⟩
  rw [hlg] at KH hL
  have HH := Lib.hid hh
  have HG := Lib.hid hg
  have HERR := Lib.hid hErr
  have HOK := Lib.hid hOk
  have H265 := Lib.hid h265
  have H272 := Lib.hid h272
  have H270 := Lib.hid h270
  have HW := Lib.hid hw
  have HB := Lib.hid hb
  have HT := Lib.hid hT
  have HML := Lib.hid hml
  have H0 := Lib.hid h0
  have HLG := Lib.hid hlg
  have HBL := Lib.hid hbl
  have hlgb : lg < 20 := by rw [← hlg]; exact (Nat.log2_lt hT0).2 (by omega)
  clear hh hg hErr hOk h265 h272 h270 hw hb hT hml h0 hlg hbl
  go_wp2_with fail
  refine KH.out.mono ?_
  rintro e w1 ⟨rfl, hw1⟩
  subst hw1
  by_cases h11 : 11 < L
  · have hd : decide ((11 : Int) < (lg : Int) + 1) = true := decide_eq_true (by omega)
    have hcl : clsF ws ≠ 0 := by rw [hcr, if_pos (.inl h11)]; decide
    have HCL := Lib.hid hcl
    clear hcr hcl
    go_wp2_with fail
    refine (errorsNew_any _ _).mono ?_
    rintro e w2 he
    obtain ⟨⟨b, s, rfl, _⟩, honE⟩ := errE_of he
    have HOE := Lib.hid honE
    clear honE
    clear he
    go_wp2_with fail
    exact HERR.out HCL.out _ _ b ⟨rfl, rfl, rfl, rfl, rfl⟩ (HBL.out.only HOE.out (fun _ _ e => e))
  · have hd : decide ((11 : Int) < (lg : Int) + 1) = false := decide_eq_false (by omega)
    have hTlt : T < 2 ^ L := by rw [← hL, ← HLG.out]; exact Nat.lt_log2_self
    obtain ⟨tot, htot⟩ : ∃ tot, 2 ^ L = tot := ⟨_, rfl⟩
    have htotb : tot ≤ 2048 := by rw [← htot]; exact Nat.le_trans (Nat.pow_le_pow_right (by omega) (show L ≤ 11 by omega)) (by decide)
    rw [htot] at hTlt hcr
    have hpw := two_pow_i L tot htot (by omega)
    obtain ⟨rs, hrs⟩ : ∃ rs, tot - T = rs := ⟨_, rfl⟩
    have hsub : (tot : Int) - (T : Int) = (rs : Nat) := by omega
    rw [hrs] at hcr
    have hrs0 : rs ≠ 0 := by omega
    obtain ⟨K, hK⟩ : ∃ K, rs.log2 = K := ⟨_, rfl⟩
    have hKb : K < 11 := by rw [← hK]; exact (Nat.log2_lt hrs0).2 (by omega)
    have KH2 : Hid (∀ w, Calls Tryf.prog 25 #[.int .u32 (rs : Nat)] w fun e w' => e = .returned (.int .u32 (K : Nat)) ∧ w = w') := Lib.hid (fun w => by rw [← hK]; exact highBit32_any rs w hrs0 (by omega) rs rfl)
    obtain ⟨vk, hvk⟩ : ∃ vk, 2 ^ K = vk := ⟨_, rfl⟩
    have hvkb : vk ≤ 2048 := by rw [← hvk]; exact Nat.le_trans (Nat.pow_le_pow_right (by omega) (show K ≤ 11 by omega)) (by decide)
    have hpk := two_pow_i K vk hvk (by omega)
    rw [hK, hvk] at hcr
    have k268 := HH.out.cell 268 (by omega)
    have z268 := HH.out.frozen 268
    have HCR := Lib.hid hcr
    have HTOT := Lib.hid htot
    have HRS := Lib.hid hrs
    have HKK := Lib.hid hK
    have HVK := Lib.hid hvk
    clear hcr htot hrs hK hvk hTlt
    go_wp2_with fail
    refine (KH2.out _).mono ?_
    rintro e w2 ⟨rfl, hw2⟩
    have hh2 := HH.out.set_ 268 (.int .u8 ((lg : Int) + 1))
    have hg2 := HG.out.other (p := ⟨H, 268, none⟩) (.int .u8 ((lg : Int) + 1)) hne
    have hbl2 := HBL.out.set_ (p := ⟨H, 268, none⟩) hBH (.int .u8 ((lg : Int) + 1))
    rw [hw2] at hh2 hg2 hbl2
    have HBL2 := Lib.hid hbl2
    clear hbl2
    clear hw2 k268 z268
    have HH2 := Lib.hid hh2
    have HG2 := Lib.hid hg2
    clear hh2 hg2
    go_wp2_with fail
    refine (KH2.out _).mono ?_
    rintro e w3 ⟨rfl, hw3⟩
    subst hw3
    by_cases hp : vk = rs
    · subst hp
      have hne2 : ((vk : Int) != (vk : Int)) = false := by simp
      have hcw := cw_total (L := L) HT.out (by rw [HLG.out]; exact hL) hT0 (by omega) (K := K) (by rw [HTOT.out, HRS.out]; exact HKK.out) (by rw [HTOT.out, HRS.out]; exact HVK.out.symm)
      have hcl := cls_last (L := L) H0.out HML.out HB.out HT.out (by rw [HLG.out]; exact hL) hT0 (by omega) (K := K) (by rw [HTOT.out, HRS.out]; exact HKK.out) (by rw [HTOT.out, HRS.out]; exact HVK.out.symm)
      have k265 : w2.cell? ⟨H, 265, none⟩ = some (.int .u16 (m : Nat)) := HH2.out.cellv 265 (by omega) _ (by rw [updV_ne _ _ _ _ (by omega)]; exact H265.out)
      have km := HH2.out.cell (284 + m) (by omega)
      have zm := HH2.out.frozen (284 + m)
      have hmi : (m : Int) < 256 := by omega
      have HCW := Lib.hid hcw
      have HCL := Lib.hid hcl
      clear hcw hcl
      go_upto_region 77 with fail
      rename_i K7 K7Q
      have HK7 := Lib.hid K7Q
      clear K7Q
      refine wp_region_noPanic ?_
      refine wp_region_quiet_tail 10 (by kernel_rfl) (by kernel_rfl) ?_
      simp only [List.take_succ_cons, List.take_zero, List.drop_succ_cons, List.drop_zero]
      repeat (go_big_quiet_step (fail))
      refine wpQuiet_nil ?_
      go_wp2_with fail
      refine NoPanic.normal (HK7.out _ _ ?_)
      clear HK7
      have hh4 := (HH2.out.drewN 1).set_ (284 + m) (.int .u8 ((K : Int) + 1))
      have hg4 := (HG2.out.drewN 1).other (p := ⟨H, 284 + m, none⟩) (.int .u8 ((K : Int) + 1)) hne
      have hbl4 := (HBL2.out.drewN 1).set_ (p := ⟨H, 284 + m, none⟩) hBH (.int .u8 ((K : Int) + 1))
      generalize World.setCell (w2.drewN 1) _ _ = w4 at hh4 hg4 hbl4 ⊢
      have HBL4 := Lib.hid hbl4
      clear hbl4
      clear k265 km zm
      obtain ⟨cK, hcK⟩ : ∃ cK, cnt (wfF ws) m (K + 1) = cK := ⟨_, rfl⟩
      have hcKb : cK ≤ m := by rw [← hcK]; exact cnt_bound _ _ _
      have k265 : w4.cell? ⟨H, 265, none⟩ = some (.int .u16 (m : Nat)) := hh4.cellv 265 (by omega) _ (by rw [updV_ne _ _ _ _ (by omega), updV_ne _ _ _ _ (by omega)]; exact H265.out)
      have z265 := hh4.frozen 265
      have kr : w4.cell? ⟨Gr, K + 1, none⟩ = some (.int .u32 (cK : Nat)) := hg4.cellv (K + 1) (by omega) _ (by rw [hcK])
      have zr := hg4.frozen (K + 1)
      have HH4 := Lib.hid hh4
      have HG4 := Lib.hid hg4
      have HCK := Lib.hid hcK
      clear hh4 hg4 hcK
      go_upto_region 80 with fail
      have hh5 := (HH4.out.set_ 265 (.int .u16 ((m : Int) + 1))).other (p := ⟨Gr, K + 1, none⟩) (.int .u32 ((cK : Int) + 1)) (Ne.symm hne)
      have hg5 := (HG4.out.other (p := ⟨H, 265, none⟩) (.int .u16 ((m : Int) + 1)) hne).set_ (K + 1) (.int .u32 ((cK : Int) + 1))
      have hbl5 := (HBL4.out.set_ (p := ⟨H, 265, none⟩) hBH (.int .u16 ((m : Int) + 1))).set_ (p := ⟨Gr, K + 1, none⟩) hBG (.int .u32 ((cK : Int) + 1))
      generalize World.setCell (World.setCell w4 _ _) _ _ = w5 at hh5 hg5 hbl5 ⊢
      have HBL5 := Lib.hid hbl5
      clear hbl5
      clear k265 z265 kr zr
      obtain ⟨c1, hc1⟩ : ∃ c1, cwF ws m K 1 = c1 := ⟨_, rfl⟩
      have hg6 : RowF w5 Gr 101 16 (fun i => .int .u32 (cwF ws m K i : Nat)) := hg5.congr fun i _ => by
        unfold updV cwF
        by_cases e : i = K + 1
        · subst e
          rw [if_pos rfl, if_pos rfl, HCK.out]
          rfl
        · rw [if_neg e, if_neg (by omega), Nat.add_zero]
      have hc1b : c1 ≤ m + 1 := by
        rw [← hc1]
        unfold cwF
        have := cnt_bound (wfF ws) m 1
        split <;> omega
      have k1 : w5.cell? ⟨Gr, 1, none⟩ = some (.int .u32 (c1 : Nat)) := hg6.cellv 1 (by omega) _ (by rw [hc1])
      have hev : c1 % 2 = 0 := by rw [← hc1]; exact HCL.out.2
      have hand : bits .and .u32 (c1 : Int) 1 = 0 := by
        have h := and_u32 c1 1 (by omega) (by omega) 1 rfl
        rw [h, hev]
        rfl
      have HH5 := Lib.hid hh5
      have HG6 := Lib.hid hg6
      have HC1 := Lib.hid hc1
      clear hh5 hg5 hg6 hc1 HH4 HG4 HH2 HG2
      by_cases hlow : c1 < 2
      · have hd2 : decide ((c1 : Int) < 2) = true := decide_eq_true (by omega)
        have hcl2 : clsF ws ≠ 0 := by rw [HCL.out.1, HC1.out, if_pos (by omega)]; decide
        have HCL2 := Lib.hid hcl2
        clear hcl2
        go_wp2_with fail
        refine (errorsNew_any _ _).mono ?_
        rintro e w6 he
        obtain ⟨⟨b, s, rfl, _⟩, honE⟩ := errE_of he
        have HOE := Lib.hid honE
        clear honE
        clear he
        go_wp2_with fail
        exact HERR.out HCL2.out _ _ b ⟨rfl, rfl, rfl, rfl, rfl⟩ (HBL5.out.only HOE.out (fun _ _ e => e))
      · have hd2 : decide ((c1 : Int) < 2) = false := decide_eq_false (by omega)
        go_upto_if 388 with fail
        rename_i K9 K9Q
        have HK9 := Lib.hid K9Q
        clear K9Q
        go_wp2_with fail
        refine HK9.out _ _ ?_
        refine rt_s6 (L := L) (m := m + 1) (wv := wlF ws m K) (c := cwF ws m K) HH5.out HG6.out hne HBL5.out hBH hBG ?_ ?_ ?_ ?_ ?_ (by omega) (by omega) ?_ HCW.out.1 (fun i _ _ => (wl_cnt ws m K i HB.out).symm) _ _ _ _ _ _ _ _ _ _ _ _ _ _ _ _ _ _ _ _ _ _ _ _ _ _ _ _ _ _ _ _ _ _ _ _ _ _ _ _ _ _ _ _ _ _ _ _ _ _ _ _ _ _ _ _ _ _ _ _ _ _ _ _ _ _ _ _ _ _ _ _ _ _ _ _ _ _ _ _ _ _ _ _ _ _ _ _ _ _ _ _ _ _ _ _ _ _ _ _ _ _ _ _ _ _ _ _ _ _ _ _ _ _ _ _ _ _ _ _ _ _ _ _ _ _ _ _ _ _ _ _ _ _ _ _ _ _ _ _ _ _ _ _ _ _ _ _ _ _ _ _ _ _ _ _ _ _ _ _ _ _ _ _ _ _ _ _ _ _ _ _ _ _ _ _ _ _ _ _ _ _ _ _ _ _ _ _ _ _ _ _ _ _ _ _ _ _ _ _ _ _ _ _ _ _ _ _ _ _ _ _ _ _ _ _ _ _ _ _ _ _ _ _ _ _ _ _ _ _ _ _ _ _ _ _ _ _ _ _ _ _ _ _ _ _ _ _ _ _ _ _ _ _ _ _ _ _ _ _ _ _ _ _ _ _ _ _ _ _ _ _ _ _ _ _ _ _ _ _ _ _ _ _ _ _ _ _ _ _ _ _ _ _ _ _ _ _ _ _ _ _ _ _ _ _ _ _ _ _ _ _ _ _ _ _ _ _ _ _ _ _ _ _ _ _ _ _ _ _ _ _ _ _ _ _ _ _ _ _ _ _ _ _ _ _ _ _ _ _ _ _ _ _ _ _ _ _ _ _ _ _ _ _ _ _ _ _ _ _ _ _ _ _ _ _ _ _ _ _ _ _ _ _ _ _ _ _ _ _ _ _ _ _ _ _ _ _ _ _ _ _ _ _ _ _ _ _ _ _ _ _ _ _ _ _ _ _ _ _ _ _ _ _ _ _ _ _ _ _ _ _ _ _ _ _ _ _ _ _ _ _ _ _ _ _ _ _ _ _ _ _ _ _ _ _ _ _ _ _ _ _ _ _ _ _ _ _ _ _ _ _ _ _ _ _ _ _ _ _ _ _ _ _ _ _ _ _ _ _ _ _ _ _ _ _ _ _ _ _ _ _ _ _ _ _ _ _ _ _ _ _ _ _ _ _ _ _ _ _ _ _ _ _ _ _ _ _ _ _ _ _ _ _ _ _ _ _ _ _ _ _ _ _ _ _ _ _ _ _ _ _ _ _ _ _ _ _ _ _ _ Q (HOK.out ?_)
        · rw [updV_same]; rfl
        · rw [updV_ne _ _ _ _ (by omega), updV_ne _ _ _ _ (by omega), updV_same]
          exact congrArg (Value.int .u8) (by omega)
        · rw [updV_ne _ _ _ _ (by omega), updV_ne _ _ _ _ (by omega), updV_ne _ _ _ _ (by omega)]; exact H272.out
        · rw [updV_ne _ _ _ _ (by omega), updV_ne _ _ _ _ (by omega), updV_ne _ _ _ _ (by omega)]; exact H270.out
        · intro k hk
          rw [updV_ne _ _ _ _ (by omega)]
          unfold wlF
          by_cases e : k = m
          · subst e; rw [updV_same, if_pos rfl]; rfl
          · rw [updV_ne _ _ _ _ (by omega), updV_ne _ _ _ _ (by omega), if_neg e]
            exact HW.out k (by omega)
        · intro k hk
          unfold wlF
          by_cases e : k = m
          · rw [if_pos e]; exact HCW.out.2.1
          · rw [if_neg e]
            by_cases e1 : 1 ≤ wvF ws k
            · exact wv_log HB.out HT.out (by rw [HLG.out]; exact hL) k (by omega) e1
            · omega
        · rw [HCL.out.1, HC1.out, if_neg (by omega)]
    · have hne2 : ((vk : Int) != (rs : Int)) = true := by
        rw [bne_iff_ne]
        omega
      have hcl : clsF ws ≠ 0 := by rw [HCR.out, if_pos (.inr (fun e => hp e.symm))]; decide
      have HCL := Lib.hid hcl
      clear hcl
      go_wp2_with fail
      refine (errorsNew_any _ _).mono ?_
      rintro e w2 he
      obtain ⟨⟨b, s, rfl, _⟩, honE⟩ := errE_of he
      have HOE := Lib.hid honE
      clear honE
      clear he
      go_wp2_with fail
      exact HERR.out HCL.out _ _ b ⟨rfl, rfl, rfl, rfl, rfl⟩ (HBL2.out.only HOE.out (fun _ _ e => e))
end Go.Proofs.YthkklojjpgjiiaaFmt
