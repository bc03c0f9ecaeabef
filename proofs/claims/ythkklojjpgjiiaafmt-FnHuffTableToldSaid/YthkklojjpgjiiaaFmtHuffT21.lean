/-
  huff0.ReadTable: the tests of the weights. Conditions: those of each.
-/
import Derived.Test.YthkklojjpgjiiaaFmtHuffT20
namespace Go.Proofs.YthkklojjpgjiiaaFmt
open Go.RowKit Go.Extern.Stop Go.Stop Go.Extern

noncomputable def rtS5 : Code := cR (cR (cR (cR (cR (cR (cR (cR (cR (cR (cR (cR (cR (cR (cR (cR (((Tryf.f16.body).getD .skip)))))))))))))))))
theorem or4_zero (a b c d : Nat) (h : a ||| b ||| c ||| d = 0) : a = 0 ∧ b = 0 ∧ c = 0 ∧ d = 0 := by
  have h1 : a ≤ a ||| b ||| c ||| d := Nat.le_trans (Nat.le_trans Nat.left_le_or Nat.left_le_or) Nat.left_le_or
  have h2 : b ≤ a ||| b ||| c ||| d := Nat.le_trans (Nat.le_trans Nat.right_le_or Nat.left_le_or) Nat.left_le_or
  have h3 : c ≤ a ||| b ||| c ||| d := Nat.le_trans Nat.right_le_or Nat.left_le_or
  have h4 : d ≤ a ||| b ||| c ||| d := Nat.right_le_or
  omega
theorem or_lt16 (a b : Nat) (ha : a < 65536) (hb : b < 65536) : a ||| b < 65536 := Nat.or_lt_two_pow (n := 16) ha hb
set_option maxRecDepth 100000 in
set_option maxHeartbeats 6400000 in
theorem rt_s5 {w0 wr : World} {B H Gr m T sn : Nat} {ws : List Int} {f : Nat → Value} {A0 : Option Addr} {n0 c0 : Nat} (hh : RowF wr H 58 540 f) (hg : RowF wr Gr 101 16 (fun i => .int .u32 (cnt (wfF ws) m i : Nat))) (hne : H ≠ Gr) (hbl : Bl w0 B wr) (hBH : B ≤ H) (hBG : B ≤ Gr) (h265 : f 265 = .int .u16 (m : Nat)) (h272 : f 272 = .slice none 0 0) (h270 : f 270 = .slice none 0 0)
    (hw : ∀ k, k < m → f (284 + k) = .int .u8 (wvF ws k : Nat)) (hm : m ≤ 255) (h0 : ∀ x ∈ ws, 0 ≤ x) (hml : ws.length = m) (hT : pS (cnt (wfF ws) m) 15 = T) (hsn : sn < 256) (hseen : sn ≤ 15 ↔ ∀ k, k < m → wvF ws k ≤ 15)
    (u2 u3 u4 u5 u6 u7 u8 u9 u10 u11 u12 u13 u14 u16 u17 u18 u21 u22 u23 u24 u25 u26 u27 u28 u29 u30 u31 u32 u33 u34 u35 u36 u37 u38 u39 u40 u41 u42 u43 u44 u45 u46 u47 u48 u49 u50 u51 u52 u53 u54 u55 u56 u57 u58 u59 u60 u61 u62 u63 u64 u65 u66 u67 u68 u69 u70 u71 u72 u73 u74 u75 u76 u77 u78 u79 u80 u81 u82 u83 u84 u85 u86 u87 u88 u89 u90 u91 u92 u93 u94 u95 u96 u97 u98 u99 u100 u101 u102 u103 u104 u105 u106 u107 u108 u109 u110 u111 u112 u113 u114 u115 u116 u117 u118 u119 u120 u121 u122 u123 u124 u125 u126 u127 u128 u129 u130 u131 u132 u133 u134 u135 u136 u137 u138 u139 u140 u141 u142 u143 u144 u145 u146 u147 u148 u149 u150 u151 u152 u153 u154 u155 u156 u157 u158 u159 u160 u161 u162 u163 u164 u165 u166 u167 u168 u169 u170 u171 u172 u173 u174 u175 u176 u177 u178 u179 u180 u181 u182 u183 u184 u185 u186 u187 u188 u189 u190 u191 u192 u193 u194 u195 u196 u197 u198 u199 u200 u201 u202 u203 u204 u205 u206 u207 u208 u209 u210 u211 u212 u213 u214 u215 u216 u217 u218 u219 u220 u221 u222 u223 u224 u225 u226 u227 u228 u229 u230 u231 u232 u233 u234 u235 u236 u237 u238 u239 u240 u241 u242 u243 u244 u245 u246 u247 u248 u249 u250 u251 u252 u253 u254 u255 u256 u257 u258 u259 u260 u261 u262 u263 u264 u265 u266 u267 u268 u269 u270 u271 u272 u273 u274 u275 u276 u277 u278 u279 u280 u281 u282 u283 u284 u285 u286 u287 u288 u289 u290 u291 u292 u293 u294 u295 u296 u297 u298 u299 u300 u301 u302 u303 u304 u305 u306 u307 u308 u309 u310 u311 u312 u313 u314 u315 u316 u317 u318 u319 u320 u321 u322 u323 u324 u325 u326 u327 u328 u329 u330 u331 u332 u333 u334 u335 u336 u337 u338 u339 u340 u341 u342 u343 u344 u345 u346 u347 u348 u349 u350 u351 u352 u353 u354 u355 u356 u357 u358 u359 u360 u361 u362 u363 u364 u365 u366 u367 u368 u369 u370 u371 u372 u373 u374 u375 u376 u377 u378 u379 u380 u381 u382 u383 u384 u385 u386 u387 u388 u389 u390 u391 u392 u393 u394 u395 u396 u397 u398 u399 u400 u401 u402 u403 u404 u405 u406 u407 u408 u409 u410 u411 u412 u413 u414 u415 u416 u417 u418 u419 u420 u421 u422 u423 u424 u425 u426 u427 u428 u429 u430 u431 u432 u433 u434 u435 u436 u437 u438 u439 u440 u441 u442 u443 u444 u445 u446 u447 u448 u449 u450 u451 u452 u453 u454 u455 u456 u457 u458 u459 u460 u461 u462 u463 u464 u465 u466 u467 u468 u469 u470 u471 u472 u473 u474 u475 u476 u477 u478 u479 u480 u481 u482 u483 u484 u485 u486 u487 u488 u489 u490 u491 u492 u493 u494 u495 u496 u497 u498 u499 u500 u501 u502 u503 u504 u505 u506 u507 u508 u509 u510 u511 u512 u513 u514 u515 u516 u517 u518 u519 u520 u521 u522 u523 u524 u525 u526 u527 u528 u529 u530 u531 u532 u533 u534 u535 u536 u537 u538 u539 u540 u541 u542 u543 u544 u545 u546 u547 u548 u549 u550 u551 u552 u553 u554 u555 u556 u557 u558 u559 u560 u561 u562 u563 : Value) (Q : Exit → Act → World → Prop) (hErr : clsF ws ≠ 0 → ∀ F' w' b, RtE (.pointer (some ⟨H, 0, none⟩)) (.slice none 0 0) (.iface 107 (.pointer (some ⟨b, 0, none⟩))) F' → Bl w0 B w' → Q .ret F' w') (hOk : clsF ws = 0 → ∀ F' w', RtE (.pointer (some ⟨H, 0, none⟩)) (.slice A0 n0 c0) .nilIface F' → Bl w0 B w' → Q .ret F' w') :
    Code.wp Tryf.prog rtS5 Q ⟨#[.slice A0 n0 c0, .pointer (some ⟨H, 0, none⟩), u2, u3, u4, u5, u6, u7, u8, u9, u10, u11, u12, u13, u14, .int .u8 (sn : Nat), u16, u17, u18, .pointer (some ⟨Gr, 0, none⟩), .int .u32 (T : Nat), u21, u22, u23, u24, u25, u26, u27, u28, u29, u30, u31, u32, u33, u34, u35, u36, u37, u38, u39, u40, u41, u42, u43, u44, u45, u46, u47, u48, u49, u50, u51, u52, u53, u54, u55, u56, u57, u58, u59, u60, u61, u62, u63, u64, u65, u66, u67, u68, u69, u70, u71, u72, u73, u74, u75, u76, u77, u78, u79, u80, u81, u82, u83, u84, u85, u86, u87, u88, u89, u90, u91, u92, u93, u94, u95, u96, u97, u98, u99, u100, u101, u102, u103, u104, u105, u106, u107, u108, u109, u110, u111, u112, u113, u114, u115, u116, u117, u118, u119, u120, u121, u122, u123, u124, u125, u126, u127, u128, u129, u130, u131, u132, u133, u134, u135, u136, u137, u138, u139, u140, u141, u142, u143, u144, u145, u146, u147, u148, u149, u150, u151, u152, u153, u154, u155, u156, u157, u158, u159, u160, u161, u162, u163, u164, u165, u166, u167, u168, u169, u170, u171, u172, u173, u174, u175, u176, u177, u178, u179, u180, u181, u182, u183, u184, u185, u186, u187, u188, u189, u190, u191, u192, u193, u194, u195, u196, u197, u198, u199, u200, u201, u202, u203, u204, u205, u206, u207, u208, u209, u210, u211, u212, u213, u214, u215, u216, u217, u218, u219, u220, u221, u222, u223, u224, u225, u226, u227, u228, u229, u230, u231, u232, u233, u234, u235, u236, u237, u238, u239, u240, u241, u242, u243, u244, u245, u246, u247, u248, u249, u250, u251, u252, u253, u254, u255, u256, u257, u258, u259, u260, u261, u262, u263, u264, u265, u266, u267, u268, u269, u270, u271, u272, u273, u274, u275, u276, u277, u278, u279, u280, u281, u282, u283, u284, u285, u286, u287, u288, u289, u290, u291, u292, u293, u294, u295, u296, u297, u298, u299, u300, u301, u302, u303, u304, u305, u306, u307, u308, u309, u310, u311, u312, u313, u314, u315, u316, u317, u318, u319, u320, u321, u322, u323, u324, u325, u326, u327, u328, u329, u330, u331, u332, u333, u334, u335, u336, u337, u338, u339, u340, u341, u342, u343, u344, u345, u346, u347, u348, u349, u350, u351, u352, u353, u354, u355, u356, u357, u358, u359, u360, u361, u362, u363, u364, u365, u366, u367, u368, u369, u370, u371, u372, u373, u374, u375, u376, u377, u378, u379, u380, u381, u382, u383, u384, u385, u386, u387, u388, u389, u390, u391, u392, u393, u394, u395, u396, u397, u398, u399, u400, u401, u402, u403, u404, u405, u406, u407, u408, u409, u410, u411, u412, u413, u414, u415, u416, u417, u418, u419, u420, u421, u422, u423, u424, u425, u426, u427, u428, u429, u430, u431, u432, u433, u434, u435, u436, u437, u438, u439, u440, u441, u442, u443, u444, u445, u446, u447, u448, u449, u450, u451, u452, u453, u454, u455, u456, u457, u458, u459, u460, u461, u462, u463, u464, u465, u466, u467, u468, u469, u470, u471, u472, u473, u474, u475, u476, u477, u478, u479, u480, u481, u482, u483, u484, u485, u486, u487, u488, u489, u490, u491, u492, u493, u494, u495, u496, u497, u498, u499, u500, u501, u502, u503, u504, u505, u506, u507, u508, u509, u510, u511, u512, u513, u514, u515, u516, u517, u518, u519, u520, u521, u522, u523, u524, u525, u526, u527, u528, u529, u530, u531, u532, u533, u534, u535, u536, u537, u538, u539, u540, u541, u542, u543, u544, u545, u546, u547, u548, u549, u550, u551, u552, u553, u554, u555, u556, u557, u558, u559, u560, u561, u562, u563], []⟩ wr := by
  conv => arg 2; whnf
  have HERR := Lib.hid hErr
  have HOK := Lib.hid hOk
  obtain ⟨a, ha⟩ : ∃ a, cnt (wfF ws) m 12 = a := ⟨_, rfl⟩
  obtain ⟨b', hb'⟩ : ∃ b, cnt (wfF ws) m 13 = b := ⟨_, rfl⟩
  obtain ⟨c, hc⟩ : ∃ c, cnt (wfF ws) m 14 = c := ⟨_, rfl⟩
  obtain ⟨d, hd⟩ : ∃ d, cnt (wfF ws) m 15 = d := ⟨_, rfl⟩
  have hab := cnt_bound (wfF ws) m 12
  have hbb := cnt_bound (wfF ws) m 13
  have hcb := cnt_bound (wfF ws) m 14
  have hdb := cnt_bound (wfF ws) m 15
  have k12 : wr.cell? ⟨Gr, 12, none⟩ = some (.int .u32 (a : Nat)) := hg.cellv 12 (by omega) _ (by rw [ha])
  have k13 : wr.cell? ⟨Gr, 13, none⟩ = some (.int .u32 (b' : Nat)) := hg.cellv 13 (by omega) _ (by rw [hb'])
  have k14 : wr.cell? ⟨Gr, 14, none⟩ = some (.int .u32 (c : Nat)) := hg.cellv 14 (by omega) _ (by rw [hc])
  have k15 : wr.cell? ⟨Gr, 15, none⟩ = some (.int .u32 (d : Nat)) := hg.cellv 15 (by omega) _ (by rw [hd])
  have o1 : bits .or .u32 (a : Int) (b' : Int) = ((a ||| b' : Nat) : Int) := or32 _ _ (by omega) (by omega)
  have l1 := or_lt16 a b' (by omega) (by omega)
  have o2 : bits .or .u32 ((a ||| b' : Nat) : Int) (c : Int) = ((a ||| b' ||| c : Nat) : Int) := or32 _ _ (by omega) (by omega)
  have l2 := or_lt16 (a ||| b') c (by omega) (by omega)
  have o3 : bits .or .u32 ((a ||| b' ||| c : Nat) : Int) (d : Int) = ((a ||| b' ||| c ||| d : Nat) : Int) := or32 _ _ (by omega) (by omega)
  obtain ⟨p1, hp1⟩ : ∃ p, a ||| b' = p := ⟨_, rfl⟩
  rw [hp1] at o1 o2 o3
  obtain ⟨p2, hp2⟩ : ∃ p, p1 ||| c = p := ⟨_, rfl⟩
  rw [hp2] at o2 o3
  obtain ⟨p3, hp3⟩ : ∃ p, p2 ||| d = p := ⟨_, rfl⟩
  rw [hp3] at o3
  have hor : a ||| b' ||| c ||| d = p3 := by rw [hp1, hp2, hp3]
  have HBL := Lib.hid hbl
  clear hp1 hp2 hp3 hErr hOk l1 l2 hbl
  by_cases h15 : 15 < sn
  · have hd15 : decide ((15 : Int) < (sn : Int)) = true := decide_eq_true (by omega)
    have hcl : clsF ws ≠ 0 := by
      rw [cls_bad hml]
      · decide
      · have h1 : ¬ ∀ k, k < m → wvF ws k ≤ 15 := fun h => by have := hseen.2 h; omega
        obtain ⟨k, hk⟩ := Classical.not_forall.1 h1
        exact ⟨k, by omega⟩
    have HCL := Lib.hid (hcl)
    go_wp2_with fail
    refine (errorsNew_any _ _).mono ?_
    rintro e w2 he
    obtain ⟨⟨b, s, rfl, _⟩, honE⟩ := errE_of he
    have HOE := Lib.hid honE
    clear honE
    clear he
    go_wp2_with fail
    exact HERR.out HCL.out _ _ b ⟨rfl, rfl, rfl, rfl, rfl⟩ (HBL.out.only HOE.out (fun _ _ e => e))
  · have hd15 : decide ((15 : Int) < (sn : Int)) = false := decide_eq_false (by omega)
    have hall := hseen.1 (by omega)
    by_cases hp : p3 = 0
    · have hpz : ((p3 : Int) != 0) = false := by rw [hp]; rfl
      rw [hp] at hor
      obtain ⟨z1, z2, z3, z4⟩ := or4_zero a b' c d hor
      have hb : ∀ k, k < m → wvF ws k ≤ 11 := fun k hk => by
        have h1 := hall k hk
        have h2 : wfF ws k = wvF ws k := by unfold wfF; omega
        have f12 := (cnt_none (f := wfF ws) m 12).1 (by omega) k hk
        have f13 := (cnt_none (f := wfF ws) m 13).1 (by omega) k hk
        have f14 := (cnt_none (f := wfF ws) m 14).1 (by omega) k hk
        have f15 := (cnt_none (f := wfF ws) m 15).1 (by omega) k hk
        omega
      have hTb : T ≤ 1000000 := by
        rw [← hT, ← tot_eq h0 hml hb]
        have h1 := sumW_le ws (fun x hx => by
          obtain ⟨k, hk, rfl⟩ := List.getElem_of_mem hx
          have h2 := hb k (by omega)
          unfold wvF at h2
          rw [List.getD_eq_getElem?_getD, List.getElem?_eq_getElem hk] at h2
          simp only [Option.getD_some] at h2
          omega)
        have : 1024 * ws.length ≤ 1024 * 255 := Nat.mul_le_mul_left _ (by omega)
        omega
      have hpi : (p3 : Int) = 0 := by omega
      have HS := Lib.hid hseen
      clear hseen hor
      by_cases hT0 : T = 0
      · have hz : ((T : Int) == 0) = true := by rw [hT0]; rfl
        have HCL := Lib.hid (show clsF ws ≠ 0 by rw [cls_rest h0 hml hb hT, if_pos hT0]; decide)
        go_wp2_with fail
        refine (errorsNew_any _ _).mono ?_
        rintro e w2 he
        obtain ⟨⟨b, s, rfl, _⟩, honE⟩ := errE_of he
        have HOE := Lib.hid honE
        clear honE
        clear he
        go_wp2_with fail
        exact HERR.out HCL.out _ _ b ⟨rfl, rfl, rfl, rfl, rfl⟩ (HBL.out.only HOE.out (fun _ _ e => e))
      · have hz : ((T : Int) == 0) = false := beq_eq_false_iff_ne.2 (by omega)
        have HH := Lib.hid hh
        have HG := Lib.hid hg
        have HW := Lib.hid hw
        have HB := Lib.hid hb
        have HALL := Lib.hid hall
        have H0 := Lib.hid h0
        have HT := Lib.hid hT
        clear hh hg hw hb hall h0 hT ha hb' hc hd
        go_upto_if 327 with fail
        rename_i K9 K9Q
        have HK9 := Lib.hid K9Q
        clear K9Q
        go_wp2_with fail
        refine HK9.out _ _ ?_
        exact rt_s5b HH.out HG.out hne HBL.out hBH hBG h265 h272 h270 HW.out hm H0.out hml HB.out HT.out hT0 hTb _ _ _ _ _ _ _ _ _ _ _ _ _ _ _ _ _ _ _ _ _ _ _ _ _ _ _ _ _ _ _ _ _ _ _ _ _ _ _ _ _ _ _ _ _ _ _ _ _ _ _ _ _ _ _ _ _ _ _ _ _ _ _ _ _ _ _ _ _ _ _ _ _ _ _ _ _ _ _ _ _ _ _ _ _ _ _ _ _ _ _ _ _ _ _ _ _ _ _ _ _ _ _ _ _ _ _ _ _ _ _ _ _ _ _ _ _ _ _ _ _ _ _ _ _ _ _ _ _ _ _ _ _ _ _ _ _ _ _ _ _ _ _ _ _ _ _ _ _ _ _ _ _ _ _ _ _ _ _ _ _ _ _ _ _ _ _ _ _ _ _ _ _ _ _ _ _ _ _ _ _ _ _ _ _ _ _ _ _ _ _ _ _ _ _ _ _ _ _ _ _ _ _ _ _ _ _ _ _ _ _ _ _ _ _ _ _ _ _ _ _ _ _ _ _ _ _ _ _ _ _ _ _ _ _ _ _ _ _ _ _ _ _ _ _ _ _ _ _ _ _ _ _ _ _ _ _ _ _ _ _ _ _ _ _ _ _ _ _ _ _ _ _ _ _ _ _ _ _ _ _ _ _ _ _ _ _ _ _ _ _ _ _ _ _ _ _ _ _ _ _ _ _ _ _ _ _ _ _ _ _ _ _ _ _ _ _ _ _ _ _ _ _ _ _ _ _ _ _ _ _ _ _ _ _ _ _ _ _ _ _ _ _ _ _ _ _ _ _ _ _ _ _ _ _ _ _ _ _ _ _ _ _ _ _ _ _ _ _ _ _ _ _ _ _ _ _ _ _ _ _ _ _ _ _ _ _ _ _ _ _ _ _ _ _ _ _ _ _ _ _ _ _ _ _ _ _ _ _ _ _ _ _ _ _ _ _ _ _ _ _ _ _ _ _ _ _ _ _ _ _ _ _ _ _ _ _ _ _ _ _ _ _ _ _ _ _ _ _ _ _ _ _ _ _ _ _ _ _ _ _ _ _ _ _ _ _ _ _ _ _ _ _ _ _ _ _ _ _ _ _ _ _ _ _ _ _ _ _ _ _ _ _ _ _ _ _ _ _ _ _ _ _ _ _ _ _ _ _ _ _ _ _ _ _ _ _ _ _ _ _ _ _ _ _ _ _ _ _ _ _ _ _ _ _ _ _ _ _ _ _ _ _ _ _ _ _ _ _ _ _ _ _ _ _ _ _ _ _ _ Q HERR.out HOK.out
    · have hpz : ((p3 : Int) != 0) = true := by
        rw [bne_iff_ne]
        omega
      have hcl : clsF ws ≠ 0 := by
        rw [cls_bad hml]
        · decide
        · apply Classical.byContradiction
          intro hno
          have hz : ∀ i, 12 ≤ i → i ≤ 15 → cnt (wfF ws) m i = 0 := fun i h1 h2 => (cnt_none m i).2 fun k hk => by
            have h3 : ¬ 11 < wvF ws k := fun h => hno ⟨k, hk, h⟩
            unfold wfF
            omega
          rw [hz 12 (by omega) (by omega)] at ha
          rw [hz 13 (by omega) (by omega)] at hb'
          rw [hz 14 (by omega) (by omega)] at hc
          rw [hz 15 (by omega) (by omega)] at hd
          subst ha hb' hc hd
          exact hp hor.symm
      clear hor
      have HCL := Lib.hid (hcl)
      go_wp2_with fail
      refine (errorsNew_any _ _).mono ?_
      rintro e w2 he
      obtain ⟨⟨b, s, rfl, _⟩, honE⟩ := errE_of he
      have HOE := Lib.hid honE
      clear honE
      clear he
      go_wp2_with fail
      exact HERR.out HCL.out _ _ b ⟨rfl, rfl, rfl, rfl, rfl⟩ (HBL.out.only HOE.out (fun _ _ e => e))
end Go.Proofs.YthkklojjpgjiiaaFmt
