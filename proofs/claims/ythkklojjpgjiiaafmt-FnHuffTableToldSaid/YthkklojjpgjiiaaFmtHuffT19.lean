/-
  huff0.ReadTable: the starts, and the rooms for the table and the code. Conditions: those of each.
-/
import Derived.Test.YthkklojjpgjiiaaFmtHuffT18
namespace Go.Proofs.YthkklojjpgjiiaaFmt
open Go.RowKit Go.Extern.Stop Go.Stop Go.Extern

noncomputable def rtS6 : Code := cR (cR (cR (cR (cR (cR (cR (cR (cR (cR (cR (cR (cR (cR (cR (cR (cR (cR (cR (cR (((Tryf.f16.body).getD .skip)))))))))))))))))))))
theorem make_some (t e : TypeId) (z : Value) (size bytes n m : Nat) (ht : Tryf.prog.underlying t = some (.slice e)) (hi : (Tryf.prog.info? e).map (fun i => (i.zero, i.size, i.bytes)) = some (some z, size, bytes)) (hb : bytes * m ≤ 1000000) (hb1 : 1 ≤ bytes) (hnm : n ≤ m) (ni mi : Int) (hn : ni = n) (hm : mi = m) :
    ∃ arr : Array Value, arr.size = m * size ∧ ∀ w, (Instr.makeSlice t (.int .i64 ni) (.int .i64 mi)).run Tryf.prog w = .ok (.slice (some ⟨w.heap.size, 0, none⟩) n m) (w.alloc (.cells arr e)) := by
  obtain ⟨i, h1, h2, h3, h4⟩ := info_parts hi
  subst hn
  subst hm
  refine ⟨madeCells z.cells ((m : Int).toNat * i.size), by simp [size_madeCells, h3], fun w => ?_⟩
  have hm2 : m ≤ 1000000 := Nat.le_trans (Nat.le_mul_of_pos_left m hb1) hb
  have h := run_make (P := Tryf.prog) w t e i z ht h1 h2 .i64 .i64 n m (by omega) (by omega) (by rw [h4]; have h5 : ((bytes * m : Nat) : Int) ≤ 1000000 := (by omega); rw [Int.natCast_mul] at h5; omega) (by omega)
  simp only [Int.toNat_natCast] at h ⊢
  exact h
theorem info_dent3 : (Tryf.prog.info? 105).map (fun i => (i.zero, i.size, i.bytes)) = some (some (.agg #[.int .u16 0]), 1, 2) := by kernel_rfl
theorem info_cent3 : (Tryf.prog.info? 78).map (fun i => (i.zero, i.size, i.bytes)) = some (some (.agg #[.int .u16 0, .int .u8 0]), 2, 4) := by kernel_rfl
/-- the counts below n turned into starts -/
def stF (c : Nat → Nat) (n : Nat) : Nat → Nat := fun i => if 1 ≤ i ∧ i < n then pS c (i - 1) else c i
def StRel (w0 : World) (Gr L : Nat) (c : Nat → Nat) (v28 v29 : Value) (wr : World) : Prop :=
  ∃ n : Nat, v29 = .int .u8 (n : Nat) ∧ v28 = .int .u32 (pS c (n - 1) : Nat) ∧ 1 ≤ n ∧ n ≤ L + 1 ∧ RowF wr Gr 101 16 (fun i => .int .u32 (stF c n i : Nat)) ∧ Only (· = Gr) w0 wr
theorem RowF.fresh {w : World} {arr : Array Value} {T : TypeId} {N : Nat} (h : arr.size = N) : RowF (w.alloc (.cells arr T)) w.heap.size T N (fun k => arr.getD k undef) :=
  ⟨arr, heap_alloc_new _ _, h, fun k hk => by
    dsimp only
    rw [Array.getD_eq_getD_getElem?, Array.getElem?_eq_getElem (by omega)]
    rfl⟩
set_option maxRecDepth 100000 in
set_option maxHeartbeats 6400000 in
theorem rt_s6 {w0 wr : World} {B H Gr m L : Nat} {wv c : Nat → Nat} {f : Nat → Value} {A0 : Option Addr} {n0 c0 : Nat} (hh : RowF wr H 58 540 f) (hg : RowF wr Gr 101 16 (fun i => .int .u32 (c i : Nat))) (hne : H ≠ Gr) (hbl : Bl w0 B wr) (hBH : B ≤ H) (hBG : B ≤ Gr) (h265 : f 265 = .int .u16 (m : Nat)) (h268 : f 268 = .int .u8 (L : Nat)) (h272 : f 272 = .slice none 0 0) (h270 : f 270 = .slice none 0 0)
    (hw : ∀ k, k < m → f (284 + k) = .int .u8 (wv k : Nat)) (hm : m ≤ 256) (hL : L ≤ 11) (hwv : ∀ k, k < m → wv k ≤ L) (htot : pS c 15 = 2 ^ L) (hc : ∀ i, 1 ≤ i → i ≤ L → c i = cnt wv m i)
    (u2 u3 u4 u5 u6 u7 u8 u9 u10 u11 u12 u13 u14 u15 u16 u17 u18 u20 u21 u22 u23 u24 u25 u26 u27 u28 u29 u30 u31 u32 u33 u34 u35 u36 u37 u38 u39 u40 u41 u42 u43 u44 u45 u46 u47 u48 u49 u50 u51 u52 u53 u54 u55 u56 u57 u58 u59 u60 u61 u62 u63 u64 u65 u66 u67 u68 u69 u70 u71 u72 u73 u74 u75 u76 u77 u78 u79 u80 u81 u82 u83 u84 u85 u86 u87 u88 u89 u90 u91 u92 u93 u94 u95 u96 u97 u98 u99 u100 u101 u102 u103 u104 u105 u106 u107 u108 u109 u110 u111 u112 u113 u114 u115 u116 u117 u118 u119 u120 u121 u122 u123 u124 u125 u126 u127 u128 u129 u130 u131 u132 u133 u134 u135 u136 u137 u138 u139 u140 u141 u142 u143 u144 u145 u146 u147 u148 u149 u150 u151 u152 u153 u154 u155 u156 u157 u158 u159 u160 u161 u162 u163 u164 u165 u166 u167 u168 u169 u170 u171 u172 u173 u174 u175 u176 u177 u178 u179 u180 u181 u182 u183 u184 u185 u186 u187 u188 u189 u190 u191 u192 u193 u194 u195 u196 u197 u198 u199 u200 u201 u202 u203 u204 u205 u206 u207 u208 u209 u210 u211 u212 u213 u214 u215 u216 u217 u218 u219 u220 u221 u222 u223 u224 u225 u226 u227 u228 u229 u230 u231 u232 u233 u234 u235 u236 u237 u238 u239 u240 u241 u242 u243 u244 u245 u246 u247 u248 u249 u250 u251 u252 u253 u254 u255 u256 u257 u258 u259 u260 u261 u262 u263 u264 u265 u266 u267 u268 u269 u270 u271 u272 u273 u274 u275 u276 u277 u278 u279 u280 u281 u282 u283 u284 u285 u286 u287 u288 u289 u290 u291 u292 u293 u294 u295 u296 u297 u298 u299 u300 u301 u302 u303 u304 u305 u306 u307 u308 u309 u310 u311 u312 u313 u314 u315 u316 u317 u318 u319 u320 u321 u322 u323 u324 u325 u326 u327 u328 u329 u330 u331 u332 u333 u334 u335 u336 u337 u338 u339 u340 u341 u342 u343 u344 u345 u346 u347 u348 u349 u350 u351 u352 u353 u354 u355 u356 u357 u358 u359 u360 u361 u362 u363 u364 u365 u366 u367 u368 u369 u370 u371 u372 u373 u374 u375 u376 u377 u378 u379 u380 u381 u382 u383 u384 u385 u386 u387 u388 u389 u390 u391 u392 u393 u394 u395 u396 u397 u398 u399 u400 u401 u402 u403 u404 u405 u406 u407 u408 u409 u410 u411 u412 u413 u414 u415 u416 u417 u418 u419 u420 u421 u422 u423 u424 u425 u426 u427 u428 u429 u430 u431 u432 u433 u434 u435 u436 u437 u438 u439 u440 u441 u442 u443 u444 u445 u446 u447 u448 u449 u450 u451 u452 u453 u454 u455 u456 u457 u458 u459 u460 u461 u462 u463 u464 u465 u466 u467 u468 u469 u470 u471 u472 u473 u474 u475 u476 u477 u478 u479 u480 u481 u482 u483 u484 u485 u486 u487 u488 u489 u490 u491 u492 u493 u494 u495 u496 u497 u498 u499 u500 u501 u502 u503 u504 u505 u506 u507 u508 u509 u510 u511 u512 u513 u514 u515 u516 u517 u518 u519 u520 u521 u522 u523 u524 u525 u526 u527 u528 u529 u530 u531 u532 u533 u534 u535 u536 u537 u538 u539 u540 u541 u542 u543 u544 u545 u546 u547 u548 u549 u550 u551 u552 u553 u554 u555 u556 u557 u558 u559 u560 u561 u562 u563 : Value) (Q : Exit → Act → World → Prop) (hK : ∀ F' w', RtE (.pointer (some ⟨H, 0, none⟩)) (.slice A0 n0 c0) .nilIface F' → Bl w0 B w' → Q .ret F' w') :
    Code.wp Tryf.prog rtS6 Q ⟨#[.slice A0 n0 c0, .pointer (some ⟨H, 0, none⟩), u2, u3, u4, u5, u6, u7, u8, u9, u10, u11, u12, u13, u14, u15, u16, u17, u18, .pointer (some ⟨Gr, 0, none⟩), u20, u21, u22, u23, u24, u25, u26, u27, u28, u29, u30, u31, u32, u33, u34, u35, u36, u37, u38, u39, u40, u41, u42, u43, u44, u45, u46, u47, u48, u49, u50, u51, u52, u53, u54, u55, u56, u57, u58, u59, u60, u61, u62, u63, u64, u65, u66, u67, u68, u69, u70, u71, u72, u73, u74, u75, u76, u77, u78, u79, u80, u81, u82, u83, u84, u85, u86, u87, u88, u89, u90, u91, u92, u93, u94, u95, u96, u97, u98, u99, u100, u101, u102, u103, u104, u105, u106, u107, u108, u109, u110, u111, u112, u113, u114, u115, u116, u117, u118, u119, u120, u121, u122, u123, u124, u125, u126, u127, u128, u129, u130, u131, u132, u133, u134, u135, u136, u137, u138, u139, u140, u141, u142, u143, u144, u145, u146, u147, u148, u149, u150, u151, u152, u153, u154, u155, u156, u157, u158, u159, u160, u161, u162, u163, u164, u165, u166, u167, u168, u169, u170, u171, u172, u173, u174, u175, u176, u177, u178, u179, u180, u181, u182, u183, u184, u185, u186, u187, u188, u189, u190, u191, u192, u193, u194, u195, u196, u197, u198, u199, u200, u201, u202, u203, u204, u205, u206, u207, u208, u209, u210, u211, u212, u213, u214, u215, u216, u217, u218, u219, u220, u221, u222, u223, u224, u225, u226, u227, u228, u229, u230, u231, u232, u233, u234, u235, u236, u237, u238, u239, u240, u241, u242, u243, u244, u245, u246, u247, u248, u249, u250, u251, u252, u253, u254, u255, u256, u257, u258, u259, u260, u261, u262, u263, u264, u265, u266, u267, u268, u269, u270, u271, u272, u273, u274, u275, u276, u277, u278, u279, u280, u281, u282, u283, u284, u285, u286, u287, u288, u289, u290, u291, u292, u293, u294, u295, u296, u297, u298, u299, u300, u301, u302, u303, u304, u305, u306, u307, u308, u309, u310, u311, u312, u313, u314, u315, u316, u317, u318, u319, u320, u321, u322, u323, u324, u325, u326, u327, u328, u329, u330, u331, u332, u333, u334, u335, u336, u337, u338, u339, u340, u341, u342, u343, u344, u345, u346, u347, u348, u349, u350, u351, u352, u353, u354, u355, u356, u357, u358, u359, u360, u361, u362, u363, u364, u365, u366, u367, u368, u369, u370, u371, u372, u373, u374, u375, u376, u377, u378, u379, u380, u381, u382, u383, u384, u385, u386, u387, u388, u389, u390, u391, u392, u393, u394, u395, u396, u397, u398, u399, u400, u401, u402, u403, u404, u405, u406, u407, u408, u409, u410, u411, u412, u413, u414, u415, u416, u417, u418, u419, u420, u421, u422, u423, u424, u425, u426, u427, u428, u429, u430, u431, u432, u433, u434, u435, u436, u437, u438, u439, u440, u441, u442, u443, u444, u445, u446, u447, u448, u449, u450, u451, u452, u453, u454, u455, u456, u457, u458, u459, u460, u461, u462, u463, u464, u465, u466, u467, u468, u469, u470, u471, u472, u473, u474, u475, u476, u477, u478, u479, u480, u481, u482, u483, u484, u485, u486, u487, u488, u489, u490, u491, u492, u493, u494, u495, u496, u497, u498, u499, u500, u501, u502, u503, u504, u505, u506, u507, u508, u509, u510, u511, u512, u513, u514, u515, u516, u517, u518, u519, u520, u521, u522, u523, u524, u525, u526, u527, u528, u529, u530, u531, u532, u533, u534, u535, u536, u537, u538, u539, u540, u541, u542, u543, u544, u545, u546, u547, u548, u549, u550, u551, u552, u553, u554, u555, u556, u557, u558, u559, u560, u561, u562, u563], []⟩ wr := by
  conv => arg 2; whnf
  obtain ⟨aD, zD, hmkD⟩ := make_some 44 105 _ 1 2 2048 2048 Tryf.underlying44 info_dent3 (by omega) (by omega) (by omega) 2048 2048 rfl rfl
  obtain ⟨aC, zC, hmkC⟩ := make_some 42 78 _ 2 4 0 256 Tryf.underlying42 info_cent3 (by omega) (by omega) (by omega) 0 256 rfl rfl
  have h2048 : 2 ^ L ≤ 2048 := Nat.le_trans (Nat.pow_le_pow_right (by omega) hL) (by decide)
  have k268 : wr.cell? ⟨H, 268, none⟩ = some (.int .u8 (L : Nat)) := hh.cellv 268 (by omega) _ h268
  have HH := Lib.hid hh
  have HG := Lib.hid hg
  have HK := Lib.hid hK
  have H265 := Lib.hid h265
  have H268 := Lib.hid h268
  have H272 := Lib.hid h272
  have H270 := Lib.hid h270
  have HW := Lib.hid hw
  have HWV := Lib.hid hwv
  have HT := Lib.hid htot
  have HC := Lib.hid hc
  have HBL := Lib.hid hbl
  clear hh hg hK h265 h268 h272 h270 hw hwv htot hc hbl
  go_wp2_with fail
  rename_i K1 K1Q
  have HK1 := Lib.hid K1Q
  clear K1Q
  go_loopw [28, 29] (StRel wr Gr L c) (fun _ v29 _ => 20 - (intOf v29).toNat)
  case atStart =>
    refine ⟨1, rfl, rfl, by omega, by omega, HG.out.congr fun i _ => ?_, Only.refl _ _⟩
    unfold stF
    rw [if_neg (by omega)]
  case round =>
    obtain ⟨n, rfl, rfl, hn1, hn2, hg, ho⟩ := hrel
    by_cases hlt : n < L + 1
    · have hdec : decide ((n : Int) < (L : Int) + 1) = true := decide_eq_true (by omega)
      have hn16 : (n : Int) < 16 := by omega
      have k268w : wr.cell? ⟨H, 268, none⟩ = some (.int .u8 (L : Nat)) := (ho.row HH.out hne).cellv 268 (by omega) _ H268.out
      obtain ⟨cn, hcn⟩ : ∃ cn, c n = cn := ⟨_, rfl⟩
      obtain ⟨P, hP⟩ : ∃ P, pS c (n - 1) = P := ⟨_, rfl⟩
      obtain ⟨q, hq⟩ : ∃ q, cn * 2 ^ (n - 1) = q := ⟨_, rfl⟩
      have hPn : pS c n = P + q := by
        obtain ⟨j, rfl⟩ : ∃ j, n = j + 1 := ⟨n - 1, by omega⟩
        simp only [Nat.add_sub_cancel] at hP hq
        show pS c j + c (j + 1) * 2 ^ j = _
        rw [hP, hcn, hq]
      have hPb : P + q ≤ 2048 := by
        rw [← hPn]
        exact Nat.le_trans (pS_mono c (show n ≤ 15 by omega)) (by rw [HT.out]; exact h2048)
      have kn : wr.cell? ⟨Gr, n, none⟩ = some (.int .u32 (cn : Nat)) := hg.cellv n (by omega) _ (by unfold stF; rw [if_neg (by omega), hcn])
      have zn := hg.frozen n
      rw [hP]
      have hshl : (cn : Int) * 2 ^ (n - 1) % 4294967296 = (q : Nat) := by
        have e2 : (cn : Int) * 2 ^ (n - 1) = ((cn * 2 ^ (n - 1) : Nat) : Int) := by simp
        rw [e2, hq]
        omega
      have hPq : (P : Int) + (q : Int) ≤ 2048 := by omega
      have HGG := Lib.hid hg
      have HO := Lib.hid ho
      have HPN := Lib.hid hPn
      have HP := Lib.hid hP
      clear hg ho hq hPn hP hcn hPb k268
      go_wp2_with fail
      refine ⟨⟨n + 1, rfl, ?_, by omega, by omega, (HGG.out.set_ n (.int .u32 (P : Nat))).congr fun i hi => ?_, HO.out.set_ (p := ⟨Gr, n, none⟩) rfl _⟩, by simp [intOf]; omega⟩
      · rw [Nat.add_sub_cancel, HPN.out]
        rfl
      · unfold updV stF
        dsimp only
        by_cases e : i = n
        · subst e
          rw [if_pos rfl, if_pos (by omega), HP.out]
        · rw [if_neg e]
          by_cases e2 : 1 ≤ i ∧ i < n
          · rw [if_pos e2, if_pos (by omega)]
          · rw [if_neg e2, if_neg (by omega)]
    · have hdec : decide ((n : Int) < (L : Int) + 1) = false := decide_eq_false (by omega)
      have hnL : n = L + 1 := by omega
      subst hnL
      have k268w : wr.cell? ⟨H, 268, none⟩ = some (.int .u8 (L : Nat)) := (ho.row HH.out hne).cellv 268 (by omega) _ H268.out
      have HGG := Lib.hid hg
      have HO := Lib.hid ho
      clear hg ho k268
      go_wp2_with fail
      refine HK1.out _ _ ?_
      clear HK1
      have hhr := HO.out.row HH.out hne
      have k272 : wr.cell? ⟨H, 272, none⟩ = some (.slice none 0 0) := hhr.cellv 272 (by omega) _ H272.out
      have k270 : wr.cell? ⟨H, 270, none⟩ = some (.slice none 0 0) := hhr.cellv 270 (by omega) _ H270.out
      have k265 : wr.cell? ⟨H, 265, none⟩ = some (.int .u16 (m : Nat)) := hhr.cellv 265 (by omega) _ H265.out
      have z272 := hhr.frozen 272
      have z270 := hhr.frozen 270
      have hlt1 := hhr.lt
      have hlt2 := HGG.out.lt
      have hmi : (m : Int) ≤ 256 := by omega
      have HHR := Lib.hid hhr
      clear hhr k268w
      go_upto_region 97 with fail
      rename_i K2 K2Q
      have HK2 := Lib.hid K2Q
      clear K2Q
      obtain ⟨z, hz⟩ : ∃ z, wr.heap.size = z := ⟨_, rfl⟩
      rw [hz] at hlt1 hlt2 ⊢
      have hBX := ((((HBL.out.only HO.out (fun k hk e => by omega)).set_ (p := ⟨H, 272, none⟩) hBH (.slice (some ⟨z, 0, none⟩) 2048 2048)).set_ (p := ⟨H, 270, none⟩) hBH (.slice (some ⟨z + 1, 0, none⟩) m 256)).alloc (.cells aD 105)).alloc (.cells aC 78)
      have hX := (((HHR.out.set_ 272 (.slice (some ⟨z, 0, none⟩) 2048 2048)).set_ 270 (.slice (some ⟨z + 1, 0, none⟩) m 256)).alloc (.cells aD 105)).alloc (.cells aC 78)
      have hGX := (((HGG.out.other (p := ⟨H, 272, none⟩) (.slice (some ⟨z, 0, none⟩) 2048 2048) hne).other (p := ⟨H, 270, none⟩) (.slice (some ⟨z + 1, 0, none⟩) m 256) hne).alloc (.cells aD 105)).alloc (.cells aC 78)
      have hDX : RowF (World.alloc (World.alloc (World.setCell (World.setCell wr ⟨H, 272, none⟩ (.slice (some ⟨z, 0, none⟩) 2048 2048)) ⟨H, 270, none⟩ (.slice (some ⟨z + 1, 0, none⟩) m 256)) (.cells aD 105)) (.cells aC 78)) z 105 2048 (fun k => aD.getD k undef) := by
        have h := (RowF.fresh (w := World.setCell (World.setCell wr ⟨H, 272, none⟩ (.slice (some ⟨z, 0, none⟩) 2048 2048)) ⟨H, 270, none⟩ (.slice (some ⟨z + 1, 0, none⟩) m 256)) (T := 105) zD).alloc (.cells aC 78)
        simpa [hz] using h
      have hCX : RowF (World.alloc (World.alloc (World.setCell (World.setCell wr ⟨H, 272, none⟩ (.slice (some ⟨z, 0, none⟩) 2048 2048)) ⟨H, 270, none⟩ (.slice (some ⟨z + 1, 0, none⟩) m 256)) (.cells aD 105)) (.cells aC 78)) (z + 1) 78 512 (fun k => aC.getD k undef) := by
        have h := RowF.fresh (w := World.alloc (World.setCell (World.setCell wr ⟨H, 272, none⟩ (.slice (some ⟨z, 0, none⟩) 2048 2048)) ⟨H, 270, none⟩ (.slice (some ⟨z + 1, 0, none⟩) m 256)) (.cells aD 105)) (T := 78) zC
        simpa [hz] using h
      generalize World.alloc (World.alloc (World.setCell (World.setCell wr ⟨H, 272, none⟩ (.slice (some ⟨z, 0, none⟩) 2048 2048)) ⟨H, 270, none⟩ (.slice (some ⟨z + 1, 0, none⟩) m 256)) (.cells aD 105)) (.cells aC 78) = w3 at hX hGX hDX hCX hBX ⊢
      have k268 : w3.cell? ⟨H, 268, none⟩ = some (.int .u8 (L : Nat)) := hX.cellv 268 (by omega) _ (by rw [updV_ne _ _ _ _ (by omega), updV_ne _ _ _ _ (by omega)]; exact H268.out)
      have k269 := hX.cell 269 (by omega)
      have z269 := hX.frozen 269
      have HX := Lib.hid hX
      have HGX := Lib.hid hGX
      have HDX := Lib.hid hDX
      have HCX := Lib.hid hCX
      have HBX := Lib.hid hBX
      clear hX hGX hDX hCX hBX hz HHR HGG HO k272 k270 k265 z272 z270
      go_wp2_with fail
      refine HK2.out _ _ ?_
      clear HK2
      have hX := HX.out.set_ 269 (.int .u8 (L : Nat))
      refine rt_s7 (Dt := z) (Ct := z + 1) (L := L) (r0 := stF c (L + 1)) ⟨⟨_, hX, fun k hk => ?_, ?_, ?_⟩, HGX.out.other (p := ⟨H, 269, none⟩) _ hne, ⟨_, HDX.out.other (p := ⟨H, 269, none⟩) _ (show H ≠ z by omega)⟩, ⟨_, HCX.out.other (p := ⟨H, 269, none⟩) _ (show H ≠ z + 1 by omega)⟩, ⟨hne, by omega, by omega⟩, ⟨by omega, by omega, by omega⟩, HBX.out.set_ (p := ⟨H, 269, none⟩) hBH _, hBH, hBG, by omega, by omega⟩ ?_ hm hL HWV.out ?_ _ _ _ _ _ _ _ _ _ _ _ _ _ _ _ _ _ _ _ _ _ _ _ _ _ _ _ _ _ _ _ _ _ _ _ _ _ _ _ _ _ _ _ _ _ _ _ _ _ _ _ _ _ _ _ _ _ _ _ _ _ _ _ _ _ _ _ _ _ _ _ _ _ _ _ _ _ _ _ _ _ _ _ _ _ _ _ _ _ _ _ _ _ _ _ _ _ _ _ _ _ _ _ _ _ _ _ _ _ _ _ _ _ _ _ _ _ _ _ _ _ _ _ _ _ _ _ _ _ _ _ _ _ _ _ _ _ _ _ _ _ _ _ _ _ _ _ _ _ _ _ _ _ _ _ _ _ _ _ _ _ _ _ _ _ _ _ _ _ _ _ _ _ _ _ _ _ _ _ _ _ _ _ _ _ _ _ _ _ _ _ _ _ _ _ _ _ _ _ _ _ _ _ _ _ _ _ _ _ _ _ _ _ _ _ _ _ _ _ _ _ _ _ _ _ _ _ _ _ _ _ _ _ _ _ _ _ _ _ _ _ _ _ _ _ _ _ _ _ _ _ _ _ _ _ _ _ _ _ _ _ _ _ _ _ _ _ _ _ _ _ _ _ _ _ _ _ _ _ _ _ _ _ _ _ _ _ _ _ _ _ _ _ _ _ _ _ _ _ _ _ _ _ _ _ _ _ _ _ _ _ _ _ _ _ _ _ _ _ _ _ _ _ _ _ _ _ _ _ _ _ _ _ _ _ _ _ _ _ _ _ _ _ _ _ _ _ _ _ _ _ _ _ _ _ _ _ _ _ _ _ _ _ _ _ _ _ _ _ _ _ _ _ _ _ _ _ _ _ _ _ _ _ _ _ _ _ _ _ _ _ _ _ _ _ _ _ _ _ _ _ _ _ _ _ _ _ _ _ _ _ _ _ _ _ _ _ _ _ _ _ _ _ _ _ _ _ _ _ _ _ _ _ _ _ _ _ _ _ _ _ _ _ _ _ _ _ _ _ _ _ _ _ _ _ _ _ _ _ _ _ _ _ _ _ _ _ _ _ _ _ _ _ _ _ _ _ _ _ _ _ _ _ _ _ _ _ _ _ _ _ _ _ _ _ _ _ _ _ _ _ _ _ _ _ _ _ _ _ _ _ _ _ _ _ _ _ _ _ _ _ _ _ _ _ _ _ _ _ _ _ _ _ _ _ _ _ _ _ _ _ _ _ _ _ _ _ _ _ _ _ _ _ _ _ _ _ _ _ _ Q HK.out
      · rw [updV_ne _ _ _ _ (by omega), updV_ne _ _ _ _ (by omega), updV_ne _ _ _ _ (by omega)]
        exact HW.out k hk
      · rw [updV_ne _ _ _ _ (by omega), updV_ne _ _ _ _ (by omega), updV_ne _ _ _ _ (by omega)]
        exact H268.out
      · rw [updV_ne _ _ _ _ (by omega), updV_ne _ _ _ _ (by omega), updV_same]
      · exact hX.cellv 265 (by omega) _ (by rw [updV_ne _ _ _ _ (by omega), updV_ne _ _ _ _ (by omega), updV_ne _ _ _ _ (by omega)]; exact H265.out)
      · intro i h1 h2
        have h3 := HC.out i h1 h2
        have h4 := pS_mono c (show i ≤ 15 by omega)
        rw [HT.out] at h4
        obtain ⟨j, rfl⟩ : ∃ j, i = j + 1 := ⟨i - 1, by omega⟩
        simp only [pS, Nat.add_sub_cancel] at h4 ⊢
        unfold stF
        rw [if_pos (by omega), Nat.add_sub_cancel, ← h3]
        omega
end Go.Proofs.YthkklojjpgjiiaaFmt
