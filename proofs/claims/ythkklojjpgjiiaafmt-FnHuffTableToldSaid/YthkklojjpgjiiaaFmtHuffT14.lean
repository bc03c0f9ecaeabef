/-
  huff0.ReadTable: the table's entries, one by one. Conditions: those of each.
  huff0.ReadTable: four entries at once, over an act that is a variable. Conditions: those of each.
-/
import Derived.Test.YthkklojjpgjiiaaFmtHuffT12
import Derived.Deep.MidRow
import Derived.Deep.RegionHeld3
namespace Go.Proofs.YthkklojjpgjiiaaFmt
open Go.RowKit Go.Extern.Stop Go.Stop Go.Extern

/-- the table known by its size alone -/
def DtRel (w0 : World) (Dt ln : Nat) (v : Value) (wr : World) : Prop := ∃ k : Nat, v = .int .i64 (k : Nat) ∧ k ≤ ln ∧ (∃ g, RowF wr Dt 105 2048 g) ∧ Only (· = Dt) w0 wr
theorem info_dent : (Tryf.prog.info? 105).map (·.size) = some 1 := by kernel_rfl
set_option maxRecDepth 100000 in
set_option maxHeartbeats 6400000 in
theorem rt_fill1 {wr : World} {Dt Ge r ln : Nat} {e : Int} {v0 v1 v19 v32 v34 v35 v37 v459 v460 v461 : Value} (hd : ∃ g, RowF wr Dt 105 2048 g) (he : wr.cell? ⟨Ge, 0, none⟩ = some (.int .u16 e)) (hne : Ge ≠ Dt) (hrl : r + ln ≤ 2048) (h1 : 1 ≤ ln)
    (u2 u3 u4 u5 u6 u7 u8 u9 u10 u11 u12 u13 u14 u15 u16 u17 u18 u20 u21 u22 u23 u24 u25 u26 u27 u28 u29 u30 u31 u33 u39 u40 u41 u42 u43 u44 u45 u46 u47 u48 u49 u50 u51 u52 u53 u54 u55 u56 u57 u58 u59 u60 u61 u62 u63 u64 u65 u66 u67 u68 u69 u70 u71 u72 u73 u74 u75 u76 u77 u78 u79 u80 u81 u82 u83 u84 u85 u86 u87 u88 u89 u90 u91 u92 u93 u94 u95 u96 u97 u98 u99 u100 u101 u102 u103 u104 u105 u106 u107 u108 u109 u110 u111 u112 u113 u114 u115 u116 u117 u118 u119 u120 u121 u122 u123 u124 u125 u126 u127 u128 u129 u130 u131 u132 u133 u134 u135 u136 u137 u138 u139 u140 u141 u142 u143 u144 u145 u146 u147 u148 u149 u150 u151 u152 u153 u154 u155 u156 u157 u158 u159 u160 u161 u162 u163 u164 u165 u166 u167 u168 u169 u170 u171 u172 u173 u174 u175 u176 u177 u178 u179 u180 u181 u182 u183 u184 u185 u186 u187 u188 u189 u190 u191 u192 u193 u194 u195 u196 u197 u198 u199 u200 u201 u202 u203 u204 u205 u206 u207 u208 u209 u210 u211 u212 u213 u214 u215 u216 u217 u218 u219 u220 u221 u222 u223 u224 u225 u226 u227 u228 u229 u230 u231 u232 u233 u234 u235 u236 u237 u238 u239 u240 u241 u242 u243 u244 u245 u246 u247 u248 u249 u250 u251 u252 u253 u254 u255 u256 u257 u258 u259 u260 u261 u262 u263 u264 u265 u266 u267 u268 u269 u270 u271 u272 u273 u274 u275 u276 u277 u278 u279 u280 u281 u282 u283 u284 u285 u286 u287 u288 u289 u290 u291 u292 u293 u294 u295 u296 u297 u298 u299 u300 u301 u302 u303 u304 u305 u306 u307 u308 u309 u310 u311 u312 u313 u314 u315 u316 u317 u318 u319 u320 u321 u322 u323 u324 u325 u326 u327 u328 u329 u330 u331 u332 u333 u334 u335 u336 u337 u338 u339 u340 u341 u342 u343 u344 u345 u346 u347 u348 u349 u350 u351 u352 u353 u354 u355 u356 u357 u358 u359 u360 u361 u362 u363 u364 u365 u366 u367 u368 u369 u370 u371 u372 u373 u374 u375 u376 u377 u378 u379 u380 u381 u382 u383 u384 u385 u386 u387 u388 u389 u390 u391 u392 u393 u394 u395 u396 u397 u398 u399 u400 u401 u402 u403 u404 u405 u406 u407 u408 u409 u410 u411 u412 u413 u414 u415 u416 u417 u418 u419 u420 u421 u422 u423 u424 u425 u426 u427 u428 u429 u430 u431 u432 u433 u434 u435 u436 u437 u438 u439 u440 u441 u442 u443 u444 u445 u446 u447 u448 u449 u450 u451 u452 u453 u454 u455 u456 u457 u458 u462 u463 u464 u465 u466 u467 u468 u469 u470 u471 u472 u473 u474 u475 u476 u477 u478 u479 u480 u481 u482 u483 u484 u485 u486 u487 u488 u489 u490 u491 u492 u493 u494 u495 u496 u497 u498 u499 u500 u501 u502 u503 u504 u505 u506 u507 u508 u509 u510 u511 u512 u513 u514 u515 u516 u517 u518 u519 u520 u521 u522 u523 u524 u525 u526 u527 u528 u529 u530 u531 u532 u533 u534 u535 u536 u537 u538 u539 u540 u541 u542 u543 u544 u545 u546 u547 u548 u549 u550 u551 u552 u553 u554 u555 u556 u557 u558 u559 u560 u561 u562 u563 : Value) (Q : Exit → Act → World → Prop) (hK : ∀ F' w', RtF v0 v1 v19 v32 v34 v35 (.pointer (some ⟨Ge, 0, none⟩)) v37 (.slice (some ⟨Dt, r, none⟩) ln (2048 - r)) v459 v460 v461 F' → (∃ g, RowF w' Dt 105 2048 g) → Only (· = Dt) wr w' → Q .normal F' w') :
    Code.wp Tryf.prog rtOne Q ⟨#[v0, v1, u2, u3, u4, u5, u6, u7, u8, u9, u10, u11, u12, u13, u14, u15, u16, u17, u18, v19, u20, u21, u22, u23, u24, u25, u26, u27, u28, u29, u30, u31, v32, u33, v34, v35, .pointer (some ⟨Ge, 0, none⟩), v37, .slice (some ⟨Dt, r, none⟩) ln (2048 - r), u39, u40, u41, u42, u43, u44, u45, u46, u47, u48, u49, u50, u51, u52, u53, u54, u55, u56, u57, u58, u59, u60, u61, u62, u63, u64, u65, u66, u67, u68, u69, u70, u71, u72, u73, u74, u75, u76, u77, u78, u79, u80, u81, u82, u83, u84, u85, u86, u87, u88, u89, u90, u91, u92, u93, u94, u95, u96, u97, u98, u99, u100, u101, u102, u103, u104, u105, u106, u107, u108, u109, u110, u111, u112, u113, u114, u115, u116, u117, u118, u119, u120, u121, u122, u123, u124, u125, u126, u127, u128, u129, u130, u131, u132, u133, u134, u135, u136, u137, u138, u139, u140, u141, u142, u143, u144, u145, u146, u147, u148, u149, u150, u151, u152, u153, u154, u155, u156, u157, u158, u159, u160, u161, u162, u163, u164, u165, u166, u167, u168, u169, u170, u171, u172, u173, u174, u175, u176, u177, u178, u179, u180, u181, u182, u183, u184, u185, u186, u187, u188, u189, u190, u191, u192, u193, u194, u195, u196, u197, u198, u199, u200, u201, u202, u203, u204, u205, u206, u207, u208, u209, u210, u211, u212, u213, u214, u215, u216, u217, u218, u219, u220, u221, u222, u223, u224, u225, u226, u227, u228, u229, u230, u231, u232, u233, u234, u235, u236, u237, u238, u239, u240, u241, u242, u243, u244, u245, u246, u247, u248, u249, u250, u251, u252, u253, u254, u255, u256, u257, u258, u259, u260, u261, u262, u263, u264, u265, u266, u267, u268, u269, u270, u271, u272, u273, u274, u275, u276, u277, u278, u279, u280, u281, u282, u283, u284, u285, u286, u287, u288, u289, u290, u291, u292, u293, u294, u295, u296, u297, u298, u299, u300, u301, u302, u303, u304, u305, u306, u307, u308, u309, u310, u311, u312, u313, u314, u315, u316, u317, u318, u319, u320, u321, u322, u323, u324, u325, u326, u327, u328, u329, u330, u331, u332, u333, u334, u335, u336, u337, u338, u339, u340, u341, u342, u343, u344, u345, u346, u347, u348, u349, u350, u351, u352, u353, u354, u355, u356, u357, u358, u359, u360, u361, u362, u363, u364, u365, u366, u367, u368, u369, u370, u371, u372, u373, u374, u375, u376, u377, u378, u379, u380, u381, u382, u383, u384, u385, u386, u387, u388, u389, u390, u391, u392, u393, u394, u395, u396, u397, u398, u399, u400, u401, u402, u403, u404, u405, u406, u407, u408, u409, u410, u411, u412, u413, u414, u415, u416, u417, u418, u419, u420, u421, u422, u423, u424, u425, u426, u427, u428, u429, u430, u431, u432, u433, u434, u435, u436, u437, u438, u439, u440, u441, u442, u443, u444, u445, u446, u447, u448, u449, u450, u451, u452, u453, u454, u455, u456, u457, u458, v459, v460, v461, u462, u463, u464, u465, u466, u467, u468, u469, u470, u471, u472, u473, u474, u475, u476, u477, u478, u479, u480, u481, u482, u483, u484, u485, u486, u487, u488, u489, u490, u491, u492, u493, u494, u495, u496, u497, u498, u499, u500, u501, u502, u503, u504, u505, u506, u507, u508, u509, u510, u511, u512, u513, u514, u515, u516, u517, u518, u519, u520, u521, u522, u523, u524, u525, u526, u527, u528, u529, u530, u531, u532, u533, u534, u535, u536, u537, u538, u539, u540, u541, u542, u543, u544, u545, u546, u547, u548, u549, u550, u551, u552, u553, u554, u555, u556, u557, u558, u559, u560, u561, u562, u563], []⟩ wr := by
  conv => arg 2; whnf
  have HK := Lib.hid hK
  have HD := Lib.hid hd
  have HE := Lib.hid he
  clear hK hd he
  go_wp2_with fail
  go_loopw [547] (DtRel wr Dt ln) (fun v _ => ln - (intOf v).toNat)
  case atStart => exact ⟨0, rfl, by omega, HD.out, Only.refl _ _⟩
  case round =>
    obtain ⟨k, rfl, hk, ⟨g, hg⟩, ho⟩ := hrel
    by_cases hlt : k < ln
    · have hdec : decide ((k : Int) < (ln : Int)) = true := decide_eq_true (by omega)
      have hki : (k : Int) < (ln : Int) := by omega
      have he2 : wr.cell? ⟨Ge, 0, none⟩ = some (.int .u16 e) := by
        have hh := HE.out
        rw [← hh]
        exact World.cell?_of_block (ho.block Ge hne (World.block_lt_of_cell? _ _ hh))
      have cD := hg.cell (r + k) (by omega)
      have zD := hg.frozen (r + k)
      have HG := Lib.hid hg
      have HO := Lib.hid ho
      clear hg ho
      go_wp2_with fail
      exact ⟨⟨k + 1, rfl, by omega, ⟨_, HG.out.set_ (r + k) _⟩, HO.out.set_ (p := ⟨Dt, r + k, none⟩) rfl _⟩, by simp [intOf]; omega⟩
    · have hdec : decide ((k : Int) < (ln : Int)) = false := decide_eq_false (by omega)
      go_wp2_with fail
      exact HK.out _ _ ⟨rfl, rfl, rfl, rfl, rfl, rfl, rfl, rfl, rfl, rfl, rfl, rfl, rfl, rfl⟩ ⟨g, hg⟩ ho
end Go.Proofs.YthkklojjpgjiiaaFmt
namespace Go.Proofs.YthkklojjpgjiiaaFmt
open Go.RowKit

/-- an act that differs from a0 in slots 533 to 544 alone, some of them known -/
def Fr4 (a0 a : Act) (K : List (Nat × Value)) : Prop := a.defers = a0.defers ∧ a.tmps.size = 564 ∧ (∀ t, t < 533 ∨ 544 < t → a.tmps.getD t undef = a0.tmps.getD t undef) ∧ ∀ p ∈ K, a.tmps.getD p.1 undef = p.2
theorem Fr4.put {a0 a : Act} {K : List (Nat × Value)} (h : Fr4 a0 a K) (d : Nat) (v : Value) (hd : 533 ≤ d ∧ d ≤ 544) (hK : ∀ p ∈ K, p.1 ≠ d) : Fr4 a0 (a.put (some d) v) ((d, v) :: K) := by
  obtain ⟨h1, h2, h3, h4⟩ := h
  have ne : ∀ t, t ≠ d → (a.put (some d) v).tmps.getD t undef = a.tmps.getD t undef := fun t ht => by
    simp [Act.put, Array.getElem?_setIfInBounds_ne (Ne.symm ht)]
  refine ⟨h1, by simp [Act.put, h2], fun t ht => (ne t (by omega)).trans (h3 t ht), fun p hp => ?_⟩
  rcases List.mem_cons.1 hp with rfl | hp
  · simp [Act.put, h2, show d < 564 by omega]
  · rw [ne p.1 (hK p hp)]; exact h4 p hp
theorem Fr4.get {a0 a : Act} {K : List (Nat × Value)} (h : Fr4 a0 a K) (d : Nat) (v : Value) (hp : (d, v) ∈ K) : a.eval (.tmp d) = v := h.2.2.2 _ hp
theorem keepGe {w : World} {Ge Dt o : Nat} {v : Value} {x : Option Value} (hne : Ge ≠ Dt) (h : w.cell? ⟨Ge, 0, none⟩ = x) : (w.setCell ⟨Dt, o, none⟩ v).cell? ⟨Ge, 0, none⟩ = x :=
  (World.cell?_of_block (setCell_heap (p := ⟨Dt, o, none⟩) v hne)).trans h
theorem load_op {ρ : Operand → Value} {o : Oper} {T : TypeId} {x : Operand} {v : Value} {w : World} (ho : o.op = .load T x) (h : (Instr.loadAt T (ρ x)).run Tryf.prog w = .ok v w) : (execOp ρ o).run Tryf.prog w = .ok (.value v) w := by
  unfold execOp
  simp only [ho, Sem.run_bind, h, Result.andThen_ok, Sem.run_pure]
theorem move_op {ρ : Operand → Value} {o : Oper} {x : Operand} {v : Value} {w : World} (ho : o.op = .move x) (h : ρ x = v) : (execOp ρ o).run Tryf.prog w = .ok (.value v) w := by
  unfold execOp
  simp only [ho, h, Sem.run_pure]
theorem index_op {ρ : Operand → Value} {o : Oper} {x y : Operand} {w : World} {Dt b k : Nat} (ho : o.op = .indexAddr 44 x y) (hx : ρ x = .slice (some ⟨Dt, b, none⟩) 4 4) (hy : ρ y = .int .i64 (k : Nat)) (hk : k < 4) :
    (execOp ρ o).run Tryf.prog w = .ok (.value (.pointer (some ⟨Dt, b + k, none⟩))) w := by
  have h1 := Tryf.underlying44
  have h2 : ((k : Nat) : Int) < 4 := by omega
  unfold execOp
  simp only [ho, Sem.run_bind, hx, hy]
  have h3 : Tryf.prog.elem 44 = 105 := by kernel_rfl
  rw [run_indexAt_slice (P := Tryf.prog) (w := w) 44 ⟨Dt, b, none⟩ 4 4 .i64 ((k : Nat) : Int) (by rw [h3]; exact h1), if_pos ⟨by omega, by omega⟩, h3]
  have hi := info_dent
  cases hq : Tryf.prog.info? 105 with
  | none => rw [hq] at hi; cases hi
  | some i =>
    have hs : i.size = 1 := by simpa [hq] using hi
    simp [sizeOf, typeInfo, hq, hs, Addr.add_mid]
theorem under_dent : ∃ d, Tryf.prog.underlying 105 = some d ∧ d.isRow = true := ⟨_, Tryf.underlying105, by rfl⟩
theorem there_row {w : World} {Dt o : Nat} (h : ∃ g, RowF w Dt 105 2048 g) (ho : o < 2048) : w.there Dt o 1 := fun j hj => by
  obtain ⟨g, hg⟩ := h
  rw [show o + j = o by omega, hg.cell o ho]
  exact ⟨rfl, hg.frozen o⟩
theorem row_after {w : World} {Dt : Nat} (h : ∃ g, RowF w Dt 105 2048 g) (o : Nat) (v : Value) : ∃ g, RowF (w.setCell ⟨Dt, o, none⟩ v) Dt 105 2048 g := by
  obtain ⟨g, hg⟩ := h
  exact ⟨_, hg.set_ o v⟩
theorem wp_op_store {ops : Array Oper} {Q : Exit → Act → World → Prop} {j : Nat} {K : Act → World → Prop} {a : Act} {w : World} {o : Oper} {x y : Operand} {Dt b : Nat} {e : Value} (hj : ops[j]? = some o) (hg : o.guard = none) (ho : o.op = .store 105 x y) (hx : a.eval x = .pointer (some ⟨Dt, b, none⟩)) (hy : a.eval y = .agg #[e])
    (ht : w.there Dt b 1) (hd : o.dst = none) (h1 : e.oneCell' = true) (h : K a (w.setCell ⟨Dt, b, none⟩ e)) : wpOp Tryf.prog ops Q j K a w := by
  unfold wpOp
  simp only [hj]
  rw [if_pos (by simp [Region.wanted, hg])]
  left
  refine wp_store_mid 105 x y ho Dt b #[e] hx hy ht info_dent (by simp [h1]) ?_
  rw [hd]
  exact h
noncomputable def rtB14 : Code := cL (cL (cR rtFour))
noncomputable def rtR113 : Code := cR (cL (cL (cR rtB14)))
set_option maxRecDepth 100000 in
set_option maxHeartbeats 3200000 in
theorem rt_r113 {wr : World} {Dt Ge b : Nat} {e : Int} {a0 : Act} (ha : a0.tmps.size = 564) (h40 : a0.tmps.getD 40 undef = .slice (some ⟨Dt, b, none⟩) 4 4) (h36 : a0.tmps.getD 36 undef = .pointer (some ⟨Ge, 0, none⟩))
    (hd : ∃ g, RowF wr Dt 105 2048 g) (he : wr.cell? ⟨Ge, 0, none⟩ = some (.int .u16 e)) (hne : Ge ≠ Dt) (hb : b + 4 ≤ 2048) (Q : Exit → Act → World → Prop)
    (hK : ∀ a' w', Fr4 a0 a' [] → (∃ g, RowF w' Dt 105 2048 g) → Only (· = Dt) wr w' → Q .normal a' w') :
    Code.wp Tryf.prog rtR113 Q a0 wr := by
  conv => arg 2; whnf
  obtain ⟨dd, hu, hrow⟩ := under_dent
  have hdr : ∃ g, RowF (wr.drewN 1) Dt 105 2048 g := hd
  have her : (wr.drewN 1).cell? ⟨Ge, 0, none⟩ = some (.int .u16 e) := he
  have hor : Only (· = Dt) wr (wr.drewN 1) := (Only.refl _ wr).drewN 1
  have F0 : Fr4 a0 a0 [] := ⟨rfl, ha, fun _ _ => rfl, fun p hp => by cases hp⟩
  have hld : ∀ (a : Act) (K : List (Nat × Value)), Fr4 a0 a K → ∀ w, w.cell? ⟨Ge, 0, none⟩ = some (.int .u16 e) → (Instr.loadAt 105 (a.eval (.tmp 36))).run Tryf.prog w = .ok (.agg #[.int .u16 e]) w := fun a K hF w hw => by
    have h1 : a.eval (.tmp 36) = .pointer (some ⟨Ge, 0, none⟩) := (hF.2.2.1 36 (by omega)).trans h36
    rw [h1]
    exact run_loadAt_mid w Ge 0 105 [.int .u16 e] dd (fun j v hv => by
      cases j with
      | zero => cases hv; exact hw
      | succ j => cases hv) hu hrow info_dent
  refine wp_region_noPanic ?_
  refine wp_region_held (S := fun w' => w'.cell? ⟨Ge, 0, none⟩ = some (.int .u16 e)) (by kernel_rfl) ?_
  change wpAnyH _ _ _ _ _ 16 _ _ (wr.drewN 1)
  refine wpAnyH_take (i := 0) (v := .slice (some ⟨Dt, b, none⟩) 4 4) (fuel := 15) rfl (by kernel_rfl) (by kernel_rfl) (by kernel_rfl) (fun _ _ _ h => h) (.inl ⟨by simp [Region.wanted], fun w hw => ?_⟩) her ?_
  · exact move_op (x := .tmp 40) rfl ((F0.2.2.1 40 (by omega)).trans h40)
  have F1 := F0.put 533 (.slice (some ⟨Dt, b, none⟩) 4 4) (by omega) (by simp)
  change wpAnyH _ _ _ _ _ 15 _ (Act.put a0 (some 533) (.slice (some ⟨Dt, b, none⟩) 4 4)) _
  generalize Act.put a0 (some 533) (.slice (some ⟨Dt, b, none⟩) 4 4) = a1 at F1 ⊢
  refine wpAnyH_take (i := 1) (v := .slice (some ⟨Dt, b, none⟩) 4 4) (fuel := 14) rfl (by kernel_rfl) (by kernel_rfl) (by kernel_rfl) (fun _ _ _ h => h) (.inl ⟨by simp [Region.wanted], fun w hw => ?_⟩) her ?_
  · exact move_op (x := .tmp 40) rfl ((F1.2.2.1 40 (by omega)).trans h40)
  have F2 := F1.put 534 (.slice (some ⟨Dt, b, none⟩) 4 4) (by omega) (by simp)
  change wpAnyH _ _ _ _ _ 14 _ (Act.put a1 (some 534) (.slice (some ⟨Dt, b, none⟩) 4 4)) _
  generalize Act.put a1 (some 534) (.slice (some ⟨Dt, b, none⟩) 4 4) = a2 at F2 ⊢
  refine wpAnyH_take (i := 2) (v := .slice (some ⟨Dt, b, none⟩) 4 4) (fuel := 13) rfl (by kernel_rfl) (by kernel_rfl) (by kernel_rfl) (fun _ _ _ h => h) (.inl ⟨by simp [Region.wanted], fun w hw => ?_⟩) her ?_
  · exact move_op (x := .tmp 40) rfl ((F2.2.2.1 40 (by omega)).trans h40)
  have F3 := F2.put 535 (.slice (some ⟨Dt, b, none⟩) 4 4) (by omega) (by simp)
  change wpAnyH _ _ _ _ _ 13 _ (Act.put a2 (some 535) (.slice (some ⟨Dt, b, none⟩) 4 4)) _
  generalize Act.put a2 (some 535) (.slice (some ⟨Dt, b, none⟩) 4 4) = a3 at F3 ⊢
  refine wpAnyH_take (i := 3) (v := .slice (some ⟨Dt, b, none⟩) 4 4) (fuel := 12) rfl (by kernel_rfl) (by kernel_rfl) (by kernel_rfl) (fun _ _ _ h => h) (.inl ⟨by simp [Region.wanted], fun w hw => ?_⟩) her ?_
  · exact move_op (x := .tmp 40) rfl ((F3.2.2.1 40 (by omega)).trans h40)
  have F4 := F3.put 536 (.slice (some ⟨Dt, b, none⟩) 4 4) (by omega) (by simp)
  change wpAnyH _ _ _ _ _ 12 _ (Act.put a3 (some 536) (.slice (some ⟨Dt, b, none⟩) 4 4)) _
  generalize Act.put a3 (some 536) (.slice (some ⟨Dt, b, none⟩) 4 4) = a4 at F4 ⊢
  refine wpAnyH_take (i := 4) (v := .agg #[.int .u16 e]) (fuel := 11) rfl (by kernel_rfl) (by kernel_rfl) (by kernel_rfl) (fun _ _ _ h => h) (.inl ⟨by simp [Region.wanted], fun w hw => ?_⟩) her ?_
  · exact load_op (x := .tmp 36) rfl (hld _ _ F4 w hw)
  have F5 := F4.put 537 (.agg #[.int .u16 e]) (by omega) (by simp)
  change wpAnyH _ _ _ _ _ 11 _ (Act.put a4 (some 537) (.agg #[.int .u16 e])) _
  generalize Act.put a4 (some 537) (.agg #[.int .u16 e]) = a5 at F5 ⊢
  refine wpAnyH_take (i := 5) (v := .agg #[.int .u16 e]) (fuel := 10) rfl (by kernel_rfl) (by kernel_rfl) (by kernel_rfl) (fun _ _ _ h => h) (.inl ⟨by simp [Region.wanted], fun w hw => ?_⟩) her ?_
  · exact load_op (x := .tmp 36) rfl (hld _ _ F5 w hw)
  have F6 := F5.put 538 (.agg #[.int .u16 e]) (by omega) (by simp)
  change wpAnyH _ _ _ _ _ 10 _ (Act.put a5 (some 538) (.agg #[.int .u16 e])) _
  generalize Act.put a5 (some 538) (.agg #[.int .u16 e]) = a6 at F6 ⊢
  refine wpAnyH_take (i := 6) (v := .agg #[.int .u16 e]) (fuel := 9) rfl (by kernel_rfl) (by kernel_rfl) (by kernel_rfl) (fun _ _ _ h => h) (.inl ⟨by simp [Region.wanted], fun w hw => ?_⟩) her ?_
  · exact load_op (x := .tmp 36) rfl (hld _ _ F6 w hw)
  have F7 := F6.put 539 (.agg #[.int .u16 e]) (by omega) (by simp)
  change wpAnyH _ _ _ _ _ 9 _ (Act.put a6 (some 539) (.agg #[.int .u16 e])) _
  generalize Act.put a6 (some 539) (.agg #[.int .u16 e]) = a7 at F7 ⊢
  refine wpAnyH_take (i := 7) (v := .agg #[.int .u16 e]) (fuel := 8) rfl (by kernel_rfl) (by kernel_rfl) (by kernel_rfl) (fun _ _ _ h => h) (.inl ⟨by simp [Region.wanted], fun w hw => ?_⟩) her ?_
  · exact load_op (x := .tmp 36) rfl (hld _ _ F7 w hw)
  have F8 := F7.put 540 (.agg #[.int .u16 e]) (by omega) (by simp)
  change wpAnyH _ _ _ _ _ 8 _ (Act.put a7 (some 540) (.agg #[.int .u16 e])) _
  generalize Act.put a7 (some 540) (.agg #[.int .u16 e]) = a8 at F8 ⊢
  have hrow0 := hdr
  have hon0 := hor
  generalize wr.drewN 1 = w0 at hrow0 hon0 her ⊢
  refine wpAnyH_take (i := 8) (v := .pointer (some ⟨Dt, b + 0, none⟩)) (fuel := 7) rfl (by kernel_rfl) (by kernel_rfl) (by kernel_rfl) (fun _ _ _ h => h) (.inl ⟨by simp [Region.wanted], fun w hw => ?_⟩) her ?_
  · exact index_op (k := 0) rfl (F8.get 533 (.slice (some ⟨Dt, b, none⟩) 4 4) (by simp)) rfl (by omega)
  have F9 := F8.put 541 (.pointer (some ⟨Dt, b + 0, none⟩)) (by omega) (by simp)
  change wpAnyH _ _ _ _ _ 7 _ (Act.put a8 (some 541) (.pointer (some ⟨Dt, b + 0, none⟩))) _
  generalize Act.put a8 (some 541) (.pointer (some ⟨Dt, b + 0, none⟩)) = a9 at F9 ⊢
  refine wpAnyH_all (rs := [9]) (fuel := 6) (by kernel_rfl) (by simp) (fun i hi => ?_)
  obtain rfl : i = 9 := by simpa using hi
  refine wp_op_store (j := 9) (o := _) rfl rfl rfl (F9.get 541 (.pointer (some ⟨Dt, b + 0, none⟩)) (by simp)) (F9.get 537 (.agg #[.int .u16 e]) (by simp)) (there_row hrow0 (by omega)) rfl rfl ?_
  have hrow1 := row_after hrow0 (b + 0) (.int .u16 e)
  have hon1 := hon0.set_ (p := ⟨Dt, b + 0, none⟩) rfl (.int .u16 e)
  have her := keepGe (v := .int .u16 e) (o := b + 0) hne her
  refine ⟨her, ?_⟩
  generalize World.setCell w0 ⟨Dt, b + 0, none⟩ (.int .u16 e) = w1 at hrow1 hon1 her ⊢
  refine wpAnyH_take (i := 10) (v := .pointer (some ⟨Dt, b + 1, none⟩)) (fuel := 5) rfl (by kernel_rfl) (by kernel_rfl) (by kernel_rfl) (fun _ _ _ h => h) (.inl ⟨by simp [Region.wanted], fun w hw => ?_⟩) her ?_
  · exact index_op (k := 1) rfl (F9.get 534 (.slice (some ⟨Dt, b, none⟩) 4 4) (by simp)) rfl (by omega)
  have F10 := F9.put 542 (.pointer (some ⟨Dt, b + 1, none⟩)) (by omega) (by simp)
  change wpAnyH _ _ _ _ _ 5 _ (Act.put a9 (some 542) (.pointer (some ⟨Dt, b + 1, none⟩))) _
  generalize Act.put a9 (some 542) (.pointer (some ⟨Dt, b + 1, none⟩)) = a10 at F10 ⊢
  refine wpAnyH_all (rs := [11]) (fuel := 4) (by kernel_rfl) (by simp) (fun i hi => ?_)
  obtain rfl : i = 11 := by simpa using hi
  refine wp_op_store (j := 11) (o := _) rfl rfl rfl (F10.get 542 (.pointer (some ⟨Dt, b + 1, none⟩)) (by simp)) (F10.get 538 (.agg #[.int .u16 e]) (by simp)) (there_row hrow1 (by omega)) rfl rfl ?_
  have hrow2 := row_after hrow1 (b + 1) (.int .u16 e)
  have hon2 := hon1.set_ (p := ⟨Dt, b + 1, none⟩) rfl (.int .u16 e)
  have her := keepGe (v := .int .u16 e) (o := b + 1) hne her
  refine ⟨her, ?_⟩
  generalize World.setCell w1 ⟨Dt, b + 1, none⟩ (.int .u16 e) = w2 at hrow2 hon2 her ⊢
  refine wpAnyH_take (i := 12) (v := .pointer (some ⟨Dt, b + 2, none⟩)) (fuel := 3) rfl (by kernel_rfl) (by kernel_rfl) (by kernel_rfl) (fun _ _ _ h => h) (.inl ⟨by simp [Region.wanted], fun w hw => ?_⟩) her ?_
  · exact index_op (k := 2) rfl (F10.get 535 (.slice (some ⟨Dt, b, none⟩) 4 4) (by simp)) rfl (by omega)
  have F11 := F10.put 543 (.pointer (some ⟨Dt, b + 2, none⟩)) (by omega) (by simp)
  change wpAnyH _ _ _ _ _ 3 _ (Act.put a10 (some 543) (.pointer (some ⟨Dt, b + 2, none⟩))) _
  generalize Act.put a10 (some 543) (.pointer (some ⟨Dt, b + 2, none⟩)) = a11 at F11 ⊢
  refine wpAnyH_all (rs := [13]) (fuel := 2) (by kernel_rfl) (by simp) (fun i hi => ?_)
  obtain rfl : i = 13 := by simpa using hi
  refine wp_op_store (j := 13) (o := _) rfl rfl rfl (F11.get 543 (.pointer (some ⟨Dt, b + 2, none⟩)) (by simp)) (F11.get 539 (.agg #[.int .u16 e]) (by simp)) (there_row hrow2 (by omega)) rfl rfl ?_
  have hrow3 := row_after hrow2 (b + 2) (.int .u16 e)
  have hon3 := hon2.set_ (p := ⟨Dt, b + 2, none⟩) rfl (.int .u16 e)
  have her := keepGe (v := .int .u16 e) (o := b + 2) hne her
  refine ⟨her, ?_⟩
  generalize World.setCell w2 ⟨Dt, b + 2, none⟩ (.int .u16 e) = w3 at hrow3 hon3 her ⊢
  refine wpAnyH_take (i := 14) (v := .pointer (some ⟨Dt, b + 3, none⟩)) (fuel := 1) rfl (by kernel_rfl) (by kernel_rfl) (by kernel_rfl) (fun _ _ _ h => h) (.inl ⟨by simp [Region.wanted], fun w hw => ?_⟩) her ?_
  · exact index_op (k := 3) rfl (F11.get 536 (.slice (some ⟨Dt, b, none⟩) 4 4) (by simp)) rfl (by omega)
  have F12 := F11.put 544 (.pointer (some ⟨Dt, b + 3, none⟩)) (by omega) (by simp)
  change wpAnyH _ _ _ _ _ 1 _ (Act.put a11 (some 544) (.pointer (some ⟨Dt, b + 3, none⟩))) _
  generalize Act.put a11 (some 544) (.pointer (some ⟨Dt, b + 3, none⟩)) = a12 at F12 ⊢
  refine wpAnyH_all (rs := [15]) (fuel := 0) (by kernel_rfl) (by simp) (fun i hi => ?_)
  obtain rfl : i = 15 := by simpa using hi
  refine wp_op_store (j := 15) (o := _) rfl rfl rfl (F12.get 544 (.pointer (some ⟨Dt, b + 3, none⟩)) (by simp)) (F12.get 540 (.agg #[.int .u16 e]) (by simp)) (there_row hrow3 (by omega)) rfl rfl ?_
  have hrow4 := row_after hrow3 (b + 3) (.int .u16 e)
  have hon4 := hon3.set_ (p := ⟨Dt, b + 3, none⟩) rfl (.int .u16 e)
  have her := keepGe (v := .int .u16 e) (o := b + 3) hne her
  refine ⟨her, ?_⟩
  generalize World.setCell w3 ⟨Dt, b + 3, none⟩ (.int .u16 e) = w4 at hrow4 hon4 her ⊢
  refine wpAnyH_done (by kernel_rfl) ?_ _
  exact NoPanic.normal (hK _ _ ⟨F12.1, F12.2.1, F12.2.2.1, fun p hp => by cases hp⟩ hrow4 hon4)
end Go.Proofs.YthkklojjpgjiiaaFmt
