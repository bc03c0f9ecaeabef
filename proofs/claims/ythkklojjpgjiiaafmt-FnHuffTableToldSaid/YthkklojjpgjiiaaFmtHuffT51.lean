/-
  huff0.ReadTable: a description that is encoded. Conditions: those of each.
-/
import Derived.Test.YthkklojjpgjiiaaFmtHuffT24
import Derived.Test.YthkklojjpgjiiaaFmtHuffT50
import Derived.Deep.RegionLaw
import Derived.Deep.RegionHeld3
namespace Go.Proofs.YthkklojjpgjiiaaFmt
open Go.RowKit Go.Extern.Stop Go.Stop Go.Extern

theorem errA {F : Interp} (y z : Nat) (wy : World) (hF : F.answers wy.tape) (g : Nat) (hg : g = wy.heap.size) : Calls Tryf.prog 23 #[.string ⟨#[105, 110, 112, 117, 116, 32, 116, 111, 111, 32, 115, 109, 97, 108, 108, 32, 102, 111, 114, 32, 116, 97, 98, 108, 101, 44, 32, 119, 97, 110, 116, 32, 37, 100, 32, 98, 121, 116, 101, 115, 44, 32, 104, 97, 118, 101, 32, 37, 100]⟩, .slice (some ⟨g, 0, none⟩) 2 2] (wy.alloc (.cells #[.iface 5 (.int .u8 (y : Nat)), .iface 3 (.int .i64 (z : Nat))] 20)) (ErrPost (wy.alloc (.cells #[.iface 5 (.int .u8 (y : Nat)), .iface 3 (.int .i64 (z : Nat))] 20))) :=
  errorf_A F g _ _ _ (by show F.answers wy.tape; exact hF) (cell_new20 _ _ _ _ _ hg) (cell_new21 _ _ _ _ _ hg)
theorem errW {F : Interp} (b : Addr) (s : ByteArray) (wy : World) (hF : F.answers wy.tape) (hb : wy.cell? b = some (.string s)) (g : Nat) (hg : g = wy.heap.size) : Calls Tryf.prog 23 #[.string ⟨#[102, 115, 101, 32, 100, 101, 99, 111, 109, 112, 114, 101, 115, 115, 32, 114, 101, 116, 117, 114, 110, 101, 100, 58, 32, 37, 119]⟩, .slice (some ⟨g, 0, none⟩) 1 1] (wy.alloc (.cells #[.iface 107 (.pointer (some b))] 20)) fun e w' => (∃ v, e = .returned (.iface 138 v)) ∧ Only (fun _ => False) (wy.alloc (.cells #[.iface 107 (.pointer (some b))] 20)) w' := by
  subst hg
  refine (errorf_W F wy.heap.size b s _ (by show F.answers wy.tape; exact hF) (cell_of_row _ _ 0 _ _ (0, 0) (heap_alloc_new _ _)) ?_).mono fun e w' h => ⟨h.1, Only.of_below h.2 (fun k hk _ => hk)⟩
  rw [World.cell?_alloc_some _ _ _ (by rw [hb]; rfl)]
  exact hb
/-- the same, opened -/
def FseCase (w : World) (D H oH NH : Nat) (TH : TypeId) (fh0 : Nat → Value) (l : List UInt8) (v ev : Value) (w' : World) : Prop :=
  Only (fun k => k = D ∨ k = H) w w' ∧ (∃ f', RowF w' D 98 534 f') ∧ HKeep H oH NH TH fh0 w' ∧
    ((∃ (b : Addr) (s : ByteArray), v = .slice none 0 0 ∧ ev = .iface 107 (.pointer (some b)) ∧ w'.cell? b = some (.string s) ∧ b ≠ ⟨D, 526, none⟩ ∧ ∀ R, EncR l R → R = .refused ∨ R = .open_) ∨
     (ev = .nilIface ∧ ((∃ out, OutA w' H oH NH TH fh0 v out ∧ out.length ≤ 255 ∧ (∀ x ∈ out, 0 ≤ x ∧ x < 256) ∧ ∀ R, EncR l R → R = .good out ∨ R = .open_) ∨
        (∃ A' n' c', v = .slice A' n' c' ∧ 255 < n' ∧ ∀ R, EncR l R → R = .refused ∨ R = .open_))))
theorem FsePost.open_ {w : World} {D H oH NH : Nat} {TH : TypeId} {fh0 : Nat → Value} {l : List UInt8} {e : Ending} {w' : World} (h : FsePost w D H oH NH TH fh0 l e w') : ∃ v ev, e = .returned (.tuple #[v, ev]) ∧ FseCase w D H oH NH TH fh0 l v ev w' := by
  obtain ⟨h1, h2, h3, ⟨b, s, h4, h5, hne, h6⟩ | ⟨v, h4, h5⟩⟩ := h
  · exact ⟨_, _, h4, h1, h2, h3, .inl ⟨b, s, rfl, rfl, h5, hne, h6⟩⟩
  · exact ⟨_, _, h4, h1, h2, h3, .inr ⟨rfl, h5⟩⟩
/-- an error as the table's reading hands it back -/
def RtBad (H : Nat) (F : Act) : Prop := ∃ T v, (T = 107 ∨ T = 138) ∧ RtE (.pointer (some ⟨H, 0, none⟩)) (.slice none 0 0) (.iface T v) F
theorem numF_low (l : List UInt8) : numF l 0 4 = (l.getD 0 0).toNat % 16 := by
  have h := numF_byte l 0
  have h2 := numF_mod_le l 0 4 8 (by omega)
  rw [show 8 * 0 = 0 by rfl] at h
  rw [← h2, h]
set_option maxRecDepth 100000 in
set_option maxHeartbeats 6400000 in
theorem rt_fse (F : Interp) {w0 wr : World} (hF : F.answers wr.tape) {B H D gi oi n c hb : Nat} {d : List UInt8} {f : Nat → Value} (hh : RowF wr H 58 540 f) (hbl : Bl w0 B wr) (hBH : B ≤ H) (h278 : f 278 = .pointer (some ⟨D, 0, none⟩)) (hD : RowF wr D 98 534 fz0) (hHD : H < D) (hs : Sl wr H (some ⟨gi, oi, none⟩) n c (d.drop 1)) (hb128 : hb < 128) (hnl : d.length = n + 1) (hn1 : 1 ≤ n) (hn : n ≤ 100000) (hEof : EofB wr H)
    (u2 u3 u4 u5 u6 u8 u9 u10 u11 u12 u13 u14 u15 u16 u17 u18 u19 u20 u21 u22 u23 u24 u25 u26 u27 u28 u29 u30 u31 u32 u33 u34 u35 u36 u37 u38 u39 u40 u41 u42 u43 u44 u45 u46 u47 u48 u49 u50 u51 u52 u53 u54 u55 u56 u57 u58 u59 u60 u61 u62 u63 u64 u65 u66 u67 u68 u69 u70 u71 u72 u73 u74 u75 u76 u77 u78 u79 u80 u81 u82 u83 u84 u85 u86 u87 u88 u89 u90 u91 u92 u93 u94 u95 u96 u97 u98 u99 u100 u101 u102 u103 u104 u105 u106 u107 u108 u109 u110 u111 u112 u113 u114 u115 u116 u117 u118 u119 u120 u121 u122 u123 u124 u125 u126 u127 u128 u129 u130 u131 u132 u133 u134 u135 u136 u137 u138 u139 u140 u141 u142 u143 u144 u145 u146 u147 u148 u149 u150 u151 u152 u153 u154 u155 u156 u157 u158 u159 u160 u161 u162 u163 u164 u165 u166 u167 u168 u169 u170 u171 u172 u173 u174 u175 u176 u177 u178 u179 u180 u181 u182 u183 u184 u185 u186 u187 u188 u189 u190 u191 u192 u193 u194 u195 u196 u197 u198 u199 u200 u201 u202 u203 u204 u205 u206 u207 u208 u209 u210 u211 u212 u213 u214 u215 u216 u217 u218 u219 u220 u221 u222 u223 u224 u225 u226 u227 u228 u229 u230 u231 u232 u233 u234 u235 u236 u237 u238 u239 u240 u241 u242 u243 u244 u245 u246 u247 u248 u249 u250 u251 u252 u253 u254 u255 u256 u257 u258 u259 u260 u261 u262 u263 u264 u265 u266 u267 u268 u269 u270 u271 u272 u273 u274 u275 u276 u277 u278 u279 u280 u281 u282 u283 u284 u285 u286 u287 u288 u289 u290 u291 u292 u293 u294 u295 u296 u297 u298 u299 u300 u301 u302 u303 u304 u305 u306 u307 u308 u309 u310 u311 u312 u313 u314 u315 u316 u317 u318 u319 u320 u321 u322 u323 u324 u325 u326 u327 u328 u329 u330 u331 u332 u333 u334 u335 u336 u337 u338 u339 u340 u341 u342 u343 u344 u345 u346 u347 u348 u349 u350 u351 u352 u353 u354 u355 u356 u357 u358 u359 u360 u361 u362 u363 u364 u365 u366 u367 u368 u369 u370 u371 u372 u373 u374 u375 u376 u377 u378 u379 u380 u381 u382 u383 u384 u385 u386 u387 u388 u389 u390 u391 u392 u393 u394 u395 u396 u397 u398 u399 u400 u401 u402 u403 u404 u405 u406 u407 u408 u409 u410 u411 u412 u413 u414 u415 u416 u417 u418 u419 u420 u421 u422 u423 u424 u425 u426 u427 u428 u429 u430 u431 u432 u433 u434 u435 u436 u437 u438 u439 u440 u441 u442 u443 u444 u445 u446 u447 u448 u449 u450 u451 u452 u453 u454 u455 u456 u457 u458 u459 u460 u461 u462 u463 u464 u465 u466 u467 u468 u469 u470 u471 u472 u473 u474 u475 u476 u477 u478 u479 u480 u481 u482 u483 u484 u485 u486 u487 u488 u489 u490 u491 u492 u493 u494 u495 u496 u497 u498 u499 u500 u501 u502 u503 u504 u505 u506 u507 u508 u509 u510 u511 u512 u513 u514 u515 u516 u517 u518 u519 u520 u521 u522 u523 u524 u525 u526 u527 u528 u529 u530 u531 u532 u533 u534 u535 u536 u537 u538 u539 u540 u541 u542 u543 u544 u545 u546 u547 u548 u549 u550 u551 u552 u553 u554 u555 u556 u557 u558 u559 u560 u561 u562 u563 : Value) (Q : Exit → Act → World → Prop) (hErr0 : d.length < 1 + hb → ∀ F' w', RtBad H F' → Bl w0 B w' → Q .ret F' w')
    (hErr : 1 + hb ≤ d.length → (∀ R, EncR ((d.take (1 + hb)).drop 1) R → R = .refused ∨ R = .open_) → ∀ F' w', RtBad H F' → Bl w0 B w' → Q .ret F' w')
    (hK : ∀ out : List Int, 1 + hb ≤ d.length → out.length ≤ 255 → (∀ x ∈ out, 0 ≤ x ∧ x < 256) → (∀ R, EncR ((d.take (1 + hb)).drop 1) R → R = .good out ∨ R = .open_) → ∀ F' w' A' c' f', RtN (.slice A' (n - hb) c') (.pointer (some ⟨H, 0, none⟩)) F' → RowF w' H 58 540 f' → f' 265 = .int .u16 (out.length : Nat) → (∀ k, k < out.length → f' (284 + k) = .int .u8 (out.getD k 0)) → (∀ k, k ≠ 265 → k < 284 → f' k = f k) → Bl w0 B w' → Q .normal F' w') :
    Code.wp Tryf.prog rtFse Q ⟨#[.slice (some ⟨gi, oi, none⟩) n c, .pointer (some ⟨H, 0, none⟩), u2, u3, u4, u5, u6, .int .u8 (hb : Nat), u8, u9, u10, u11, u12, u13, u14, u15, u16, u17, u18, u19, u20, u21, u22, u23, u24, u25, u26, u27, u28, u29, u30, u31, u32, u33, u34, u35, u36, u37, u38, u39, u40, u41, u42, u43, u44, u45, u46, u47, u48, u49, u50, u51, u52, u53, u54, u55, u56, u57, u58, u59, u60, u61, u62, u63, u64, u65, u66, u67, u68, u69, u70, u71, u72, u73, u74, u75, u76, u77, u78, u79, u80, u81, u82, u83, u84, u85, u86, u87, u88, u89, u90, u91, u92, u93, u94, u95, u96, u97, u98, u99, u100, u101, u102, u103, u104, u105, u106, u107, u108, u109, u110, u111, u112, u113, u114, u115, u116, u117, u118, u119, u120, u121, u122, u123, u124, u125, u126, u127, u128, u129, u130, u131, u132, u133, u134, u135, u136, u137, u138, u139, u140, u141, u142, u143, u144, u145, u146, u147, u148, u149, u150, u151, u152, u153, u154, u155, u156, u157, u158, u159, u160, u161, u162, u163, u164, u165, u166, u167, u168, u169, u170, u171, u172, u173, u174, u175, u176, u177, u178, u179, u180, u181, u182, u183, u184, u185, u186, u187, u188, u189, u190, u191, u192, u193, u194, u195, u196, u197, u198, u199, u200, u201, u202, u203, u204, u205, u206, u207, u208, u209, u210, u211, u212, u213, u214, u215, u216, u217, u218, u219, u220, u221, u222, u223, u224, u225, u226, u227, u228, u229, u230, u231, u232, u233, u234, u235, u236, u237, u238, u239, u240, u241, u242, u243, u244, u245, u246, u247, u248, u249, u250, u251, u252, u253, u254, u255, u256, u257, u258, u259, u260, u261, u262, u263, u264, u265, u266, u267, u268, u269, u270, u271, u272, u273, u274, u275, u276, u277, u278, u279, u280, u281, u282, u283, u284, u285, u286, u287, u288, u289, u290, u291, u292, u293, u294, u295, u296, u297, u298, u299, u300, u301, u302, u303, u304, u305, u306, u307, u308, u309, u310, u311, u312, u313, u314, u315, u316, u317, u318, u319, u320, u321, u322, u323, u324, u325, u326, u327, u328, u329, u330, u331, u332, u333, u334, u335, u336, u337, u338, u339, u340, u341, u342, u343, u344, u345, u346, u347, u348, u349, u350, u351, u352, u353, u354, u355, u356, u357, u358, u359, u360, u361, u362, u363, u364, u365, u366, u367, u368, u369, u370, u371, u372, u373, u374, u375, u376, u377, u378, u379, u380, u381, u382, u383, u384, u385, u386, u387, u388, u389, u390, u391, u392, u393, u394, u395, u396, u397, u398, u399, u400, u401, u402, u403, u404, u405, u406, u407, u408, u409, u410, u411, u412, u413, u414, u415, u416, u417, u418, u419, u420, u421, u422, u423, u424, u425, u426, u427, u428, u429, u430, u431, u432, u433, u434, u435, u436, u437, u438, u439, u440, u441, u442, u443, u444, u445, u446, u447, u448, u449, u450, u451, u452, u453, u454, u455, u456, u457, u458, u459, u460, u461, u462, u463, u464, u465, u466, u467, u468, u469, u470, u471, u472, u473, u474, u475, u476, u477, u478, u479, u480, u481, u482, u483, u484, u485, u486, u487, u488, u489, u490, u491, u492, u493, u494, u495, u496, u497, u498, u499, u500, u501, u502, u503, u504, u505, u506, u507, u508, u509, u510, u511, u512, u513, u514, u515, u516, u517, u518, u519, u520, u521, u522, u523, u524, u525, u526, u527, u528, u529, u530, u531, u532, u533, u534, u535, u536, u537, u538, u539, u540, u541, u542, u543, u544, u545, u546, u547, u548, u549, u550, u551, u552, u553, u554, u555, u556, u557, u558, u559, u560, u561, u562, u563], []⟩ wr := by
  conv => arg 2; whnf
  have hnc : n ≤ c := hs.cap
  have hHl := hh.lt
  have hDl := hD.lt
  obtain ⟨g0, o0, hge, hgH, hcl⟩ := hs.at_ (by omega)
  cases hge
  have HH := Lib.hid hh
  have HD := Lib.hid hD
  have HE0 := Lib.hid hErr0
  have HE := Lib.hid hErr
  have HK := Lib.hid hK
  have HF := Lib.hid hF
  have HS := Lib.hid hs
  have HEOF := Lib.hid hEof
  have HD278 := Lib.hid h278
  obtain ⟨x, hx⟩ : ∃ x, ((d.drop 1).getD 0 0).toNat = x := ⟨_, rfl⟩
  have hxb : x < 256 := by rw [← hx]; exact UInt8.toNat_lt _
  have kx : wr.cell? ⟨gi, oi, none⟩ = some (.int .u8 (x : Nat)) := by
    have h1 := hcl 0 (by simp; omega)
    rw [Nat.add_zero] at h1
    rw [h1, ← hx, List.getD_eq_getElem?_getD, List.getElem?_eq_getElem (by simp; omega)]
    rfl
  have k278 : wr.cell? ⟨H, 278, none⟩ = some (.pointer (some ⟨D, 0, none⟩)) := hh.cellv 278 (by omega) _ h278
  have KA := Lib.hid (errA (F := F) hb n wr hF wr.heap.size rfl)
  have HX := Lib.hid hx
  have HBL := Lib.hid hbl
  clear hh hD hErr0 hErr hK hF hs hEof h278 hcl hx hbl
  by_cases hlen : n < hb
  · have hd : decide ((n : Int) < (hb : Int)) = true := decide_eq_true (by omega)
    go_wp2_with fail
    refine KA.out.mono ?_
    rintro e w2 he
    obtain ⟨⟨b, s, rfl, _⟩, honE⟩ := errE_of he
    have HOE := Lib.hid honE
    clear honE
    clear he
    go_wp2_with fail
    exact HE0.out (by omega) _ _ ⟨_, _, .inl rfl, ⟨rfl, rfl, rfl, rfl, rfl⟩⟩ ((HBL.out.alloc _).only HOE.out (fun _ _ e => e))
  · have hd : decide ((n : Int) < (hb : Int)) = false := decide_eq_false (by omega)
    obtain ⟨y, hy⟩ : ∃ y, x % 16 = y := ⟨_, rfl⟩
    have hxa : bits .and .u8 (x : Int) 15 = (y : Nat) := by rw [and8_15 x hxb, hy]
    have hnpos : (0 : Int) < (n : Int) := by omega
    have hy16 : (y : Int) < 16 := by omega
    have hneD : H ≠ D := by omega
    have HY := Lib.hid hy
    clear hy
    have hlo : hb ≠ 0 → numF ((d.take (1 + hb)).drop 1) 0 4 = y := fun h => by
      rw [numF_low, ← HY.out, ← HX.out]
      congr 2
      rw [List.drop_take, List.getD_eq_getElem?_getD, List.getD_eq_getElem?_getD, List.getElem?_take]
      rw [if_pos (by omega)]
    have HLO := Lib.hid hlo
    clear hlo
    by_cases hbig : 6 < y + 5
    · have hd2 : decide ((6 : Int) < (y : Int) + 5) = true := decide_eq_true (by omega)
      go_wp2_with fail
      refine (errorsNew_any _ _).mono ?_
      rintro e w2 he
      obtain ⟨⟨b, s, rfl, _⟩, honE⟩ := errE_of he
      have HOE := Lib.hid honE
      clear honE
      clear he
      go_wp2_with fail
      refine HE.out (by omega) (fun R hR => hR.early fun R' hR' => .inl ?_) _ _ ⟨_, _, .inl rfl, ⟨rfl, rfl, rfl, rfl, rfl⟩⟩ (HBL.out.only HOE.out (fun _ _ e => e))
      rcases hR' with ⟨_, e⟩ | ⟨h1, h2, _⟩
      · exact e
      · exfalso
        by_cases h0 : hb = 0
        · subst h0
          apply h1
          rw [List.drop_take]
          simp
        · rw [HLO.out h0] at h2
          omega
    · have hd2 : decide ((6 : Int) < (y : Int) + 5) = false := decide_eq_false (by omega)
      have c527 := HD.out.cell 527 (by omega)
      have z527 := HD.out.frozen 527
      have c526 := HD.out.cell 526 (by omega)
      have z526 := HD.out.frozen 526
      go_upto_region 28 with fail
      rename_i K8 K8Q
      have HK8 := Lib.hid K8Q
      clear K8Q
      have hD2 := (HD.out.set_ 527 (.int .i64 255)).set_ 526 (.slice (some ⟨H, 284, none⟩) 256 256)
      have ho2 : Only (· = D) wr ((wr.setCell ⟨D, 527, none⟩ (.int .i64 255)).setCell ⟨D, 526, none⟩ (.slice (some ⟨H, 284, none⟩) 256 256)) := ((Only.refl (· = D) wr).set_ (p := ⟨D, 527, none⟩) rfl _).set_ (p := ⟨D, 526, none⟩) rfl _
      generalize World.setCell (World.setCell wr _ _) _ _ = w2 at hD2 ho2 ⊢
      have hh2 := ho2.row HH.out (show H ≠ D by omega)
      have k278b : w2.cell? ⟨H, 278, none⟩ = some (.pointer (some ⟨D, 0, none⟩)) := hh2.cellv 278 (by omega) _ HD278.out
      obtain ⟨l, hl⟩ : ∃ l, (d.take (1 + hb)).drop 1 = l := ⟨_, rfl⟩
      have hll : l = (d.drop 1).take hb := by rw [← hl, List.drop_take]; congr 1; omega
      have hlog : numF l 0 4 ≤ 1 := by
        by_cases h0 : hb = 0
        · subst h0
          rw [hll]
          simp only [List.take_zero]
          rw [numF_zero [] 0 (by simp) 4]
          omega
        · rw [← hl, HLO.out h0]; omega
      have hsl : Sl w2 H (some ⟨gi, oi, none⟩) hb c l := by
        rw [hll]
        exact (HS.out.first hb (by omega)).keep fun b o hb => World.cell?_of_block (ho2.block b (by omega) (by omega))
      have KD := Lib.hid (fseDec_any F (w := w2.drewN 1) (by show F.answers w2.tape; rw [ho2.tape]; exact HF.out) (D := D) (H := H) (oH := 284) (NH := 540) (n := hb) (c := c) (TH := 58) (fh0 := f) (l := l) (hD2.drewN 1)
        (by rw [updV_ne _ _ _ _ (by omega), updV_ne _ _ _ _ (by omega)]; kernel_rfl) (by rw [updV_ne _ _ _ _ (by omega), updV_ne _ _ _ _ (by omega)]; kernel_rfl) (updV_same _ _ _)
        (by rw [updV_ne _ _ _ _ (by omega), updV_ne _ _ _ _ (by omega)]; kernel_rfl) (by rw [updV_ne _ _ _ _ (by omega), updV_same])
        (by rw [updV_ne _ _ _ _ (by omega), updV_ne _ _ _ _ (by omega)]; kernel_rfl) (by rw [updV_ne _ _ _ _ (by omega), updV_ne _ _ _ _ (by omega)]; kernel_rfl) (by rw [updV_ne _ _ _ _ (by omega), updV_ne _ _ _ _ (by omega)]; kernel_rfl)
        hsl (by omega) hlog ⟨rfl, by simp, by omega, f, hh2.drewN 1, fun _ _ => rfl, fun k hk => absurd hk (Nat.not_lt_zero k)⟩ hHD
        (HEOF.out.keep (ho2.drewN 1) (fun k hk e => by omega)))
      have HO2 := Lib.hid ho2
      have HL := Lib.hid hl
      have hbn : (hb : Int) ≤ (c : Int) := by omega
      clear hD2 ho2 hh2 hsl hlog hll hl kx k278
      have KD2 := Lib.hid (KD.out.mono fun e w' h => h.open_)
      clear KD
      refine wp_region_noPanic ?_
      go_region_law
        (first
          | (go_simp; go_at_call 24; refine KD2.out.mono ?_; rintro e w3 ⟨v, ev, rfl, hpp⟩; have HPP := Lib.hid hpp; clear hpp))
      all_goals
        refine NoPanic.normal (HK8.out _ _ ?_)
        obtain ⟨ho3, ⟨fd, hd3⟩, hkp3, hcase⟩ := HPP.out
        clear HPP
        obtain ⟨fh, hhr3, hfk3⟩ := id hkp3
        have k278c : w3.cell? ⟨H, 278, none⟩ = some (.pointer (some ⟨D, 0, none⟩)) := hhr3.cellv 278 (by omega) _ (by rw [hfk3 278 (by omega)]; exact HD278.out)
        have c526 := hd3.cell 526 (by omega)
        have z526 := hd3.frozen 526
        have htp : F.answers w3.tape := by rw [ho3.tape]; show F.answers w2.tape; rw [HO2.out.tape]; exact HF.out
        have HTP := Lib.hid htp
        have HB3 := Lib.hid (((HBL.out.only HO2.out (fun k hk e => by omega)).drewN 1).only ho3 (fun k hk e => by omega))
        clear ho3 hd3 hkp3 hhr3 hfk3 htp k278b c527 z527
        rcases hcase with ⟨b, s, rfl, rfl, hc, hne, hR⟩ | ⟨rfl, hcc⟩
        · have hc4 : (w3.setCell ⟨D, 526, none⟩ (.slice none 0 0)).cell? b = some (.string s) := by
            rw [World.cell?_setCell_other _ _ _ _ (fun e => hne e.symm)]
            exact hc
          have KW := Lib.hid (errW (F := F) b s (w3.setCell ⟨D, 526, none⟩ (.slice none 0 0)) HTP.out hc4 (w3.heap.size) (by simp))
          have HR := Lib.hid hR
          clear hc hc4 hR hne
          go_wp2_with fail
          refine KW.out.mono ?_
          rintro e w5 ⟨⟨v, rfl⟩, honE⟩
          have HOE := Lib.hid honE
          clear honE
          go_wp2_with fail
          exact HE.out (by omega) (by rw [HL.out]; exact HR.out) _ _ ⟨_, v, .inr rfl, ⟨rfl, rfl, rfl, rfl, rfl⟩⟩ (((HB3.out.set_ (p := ⟨D, 526, none⟩) (by show B ≤ D; omega) _).alloc _).only HOE.out (fun _ _ e => e))
        · rcases hcc with ⟨out, hO, hol, hob, hR⟩ | ⟨A', n', c', rfl, hn', hR⟩
          · obtain ⟨rfl, _, _, fh2, hr2, hk2, hcl2⟩ := hO
            obtain ⟨q, hq⟩ : ∃ q, out.length = q := ⟨_, rfl⟩
            have hq255 : decide ((255 : Int) < (q : Int)) = false := decide_eq_false (by omega)
            have k265 : w3.cell? ⟨H, 265, none⟩ = some (fh2 265) := hr2.cell 265 (by omega)
            have z265 := hr2.frozen 265
            obtain ⟨A4, hA4⟩ : ∃ A4, (if c = hb then (some ⟨gi, oi, none⟩ : Option Addr) else some ⟨gi, oi + hb, none⟩) = A4 := ⟨_, rfl⟩
            have hbn2 : (hb : Int) ≤ (n : Int) := by omega
            have hnci : (n : Int) ≤ (c : Int) := by omega
            have hqb : (q : Int) ≤ 255 := by omega
            rw [hq]
            have HR2 := Lib.hid (hr2.other (p := ⟨D, 526, none⟩) (.slice none 0 0) (show D ≠ H by omega))
            have HQ := Lib.hid hq
            have HK2 := Lib.hid hk2
            have HC2 := Lib.hid hcl2
            have HOB := Lib.hid hob
            have HR := Lib.hid hR
            clear hr2 hk2 hcl2 hob hR hq
            go_wp2_with fail
            refine HK.out out (by omega) hol HOB.out (by rw [HL.out]; exact HR.out) _ _ _ _ _ ⟨rfl, rfl, rfl, rfl⟩ (HR2.out.set_ 265 (.int .u16 (q : Nat))) ?_ (fun k hk => ?_) (fun k h1 h2 => ?_) ((HB3.out.set_ (p := ⟨D, 526, none⟩) (by show B ≤ D; omega) _).set_ (p := ⟨H, 265, none⟩) hBH _)
            · rw [updV_same, HQ.out]
            · rw [updV_ne _ _ _ _ (by omega)]; exact HC2.out k hk
            · rw [updV_ne _ _ _ _ h1]; exact HK2.out k (by omega)
          · have hq255 : decide ((255 : Int) < (n' : Int)) = true := decide_eq_true (by omega)
            have HR := Lib.hid hR
            clear hR
            go_wp2_with fail
            refine (errorsNew_any _ _).mono ?_
            rintro e w5 he
            obtain ⟨⟨b, s, rfl, _⟩, honE⟩ := errE_of he
            have HOE := Lib.hid honE
            clear honE
            clear he
            go_wp2_with fail
            exact HE.out (by omega) (by rw [HL.out]; exact HR.out) _ _ ⟨_, _, .inl rfl, ⟨rfl, rfl, rfl, rfl, rfl⟩⟩ ((HB3.out.set_ (p := ⟨D, 526, none⟩) (by show B ≤ D; omega) _).only HOE.out (fun _ _ e => e))
end Go.Proofs.YthkklojjpgjiiaaFmt
