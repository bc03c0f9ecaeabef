/-
  huff0's buildCTable: lengths and codes are laid in the table. Conditions: those of each.
-/
import Derived.Test.YthkklojjpgjiiaaFmtCodeT21
namespace Go.Proofs.YthkklojjpgjiiaaFmt
open Go.RowKit

/-- the lengths of the first i positions are laid by symbol -/
structure NbI (n i : Nat) (sy nb : Nat → Nat) : Prop where
  got : ∀ q, q < i → 1 ≤ nb (sy q)
  le : ∀ s, nb s ≤ 11
  src : ∀ s, nb s ≠ 0 → ∃ q, q < n ∧ sy q = s
theorem NbI.step {n i x : Nat} {sy nb : Nat → Nat} (h : NbI n i sy nb) (hi : i < n) (h1 : 1 ≤ x) (h2 : x ≤ 11) : NbI n (i + 1) sy (updN nb (sy i) x) := by
  refine ⟨fun q hq => ?_, fun s => ?_, fun s hs => ?_⟩
  · by_cases e : sy q = sy i
    · rw [e, updN_same]; exact h1
    · rw [updN_ne _ _ _ _ e]
      have : q ≠ i := fun e2 => e (by rw [e2])
      exact h.got q (by omega)
  · by_cases e : s = sy i
    · rw [e, updN_same]; exact h2
    · rw [updN_ne _ _ _ _ e]; exact h.le s
  · by_cases e : s = sy i
    · exact ⟨i, hi, e.symm⟩
    · rw [updN_ne _ _ _ _ e] at hs
      exact h.src s hs
set_option maxRecDepth 100000 in
set_option maxHeartbeats 6400000 in
theorem en_l16 {w wr : World} {H G A B Ct N n M : Nat} {f : Nat → Value} {z c pa sy l : Nat → Nat} {S : Nat} (hD : EnD w H G A B Ct) (hB : NdB n c pa sy) (hn : n ≤ 256) (hl : ∀ i, i < n → 1 ≤ l i ∧ l i ≤ 11) (hW : EnW w H G A B Ct f (ndV (NV z n c pa sy l)) (fun _ => 0) wr) (hsy : ∀ q, q < n → sy q < S) (_hS : S ≤ 256) (h271 : f 271 = .slice (some ⟨Ct, 0, none⟩) S 256) (v26 : Value) (Q : Exit → Act → World → Prop)
    (u1 u2 u3 u4 u6 u8 u9 u10 u11 u12 u13 u14 u15 u16 u20 u21 u22 u23 u24 u25 u27 u28 u29 u30 u31 u32 u33 u34 u35 u36 u37 u38 u39 u40 u41 u42 u43 u44 u45 u46 u47 u48 u49 u50 u51 u52 u53 u54 u55 u56 u57 u58 u59 u60 u61 u62 u63 u64 u65 u66 u67 u68 u69 u70 u71 u72 u73 u74 u75 u76 u77 u78 u79 u80 u81 u82 u83 u84 u85 u86 u87 u88 u89 u90 u91 u92 u93 u94 u95 u96 u97 u98 u99 u100 u101 u102 u103 u104 u105 u106 u107 u108 u109 u110 u111 u112 u113 u114 u115 u116 u117 u118 u119 u120 u121 u122 u123 u124 u125 u126 u127 u128 u129 u130 u131 u132 u133 u134 u135 u136 u137 u138 u139 u140 u141 u142 u143 u144 u145 u146 u147 u148 u149 u150 u151 u152 u153 u154 u155 u156 u157 u158 u159 u160 u161 u162 u163 u164 u165 u166 u167 u168 u169 u170 u171 u172 u173 u174 u175 u176 u177 u178 u179 u180 u181 u182 u183 u184 u185 u186 u187 u188 u189 u190 u191 u192 u193 u194 u195 u196 u197 u198 u199 u200 u201 u202 u203 u204 u205 u206 u207 u208 u209 u210 u211 u212 u213 u214 u215 u216 u217 u218 u219 u220 u221 u222 u223 u224 u225 u226 u227 u228 u229 u230 u231 u232 u233 u234 u235 u236 u237 u238 u239 u240 u241 u242 u243 u244 u245 u246 u247 u248 u249 u250 u251 u252 u253 u254 u255 u256 u257 u258 u259 u260 u261 u262 u263 u264 u265 u266 u267 u268 u269 u270 u271 u272 u273 u274 u275 u276 u277 u278 u279 u280 u281 u282 u283 u284 u285 u286 u287 u288 u289 u290 u291 u292 u293 u294 u295 u296 u297 u298 u299 u300 u301 u302 u303 u304 u305 u306 u307 u308 u309 u310 u314 u315 u316 u317 u318 u319 u320 u321 u322 u323 u324 u325 u326 u327 u328 u329 u330 u331 u332 u333 u334 u335 u336 u337 u338 u339 u340 u341 u342 u343 u344 u345 u346 u347 u348 u349 u350 u351 u352 u353 u354 u355 u356 u357 : Value)
    (hend : ∀ F w', EnF H G A B N M v26 F ∧ (∃ nb, NbI n n sy nb ∧ EnW w H G A B Ct f (ndV (NV z n c pa sy l)) nb w') → Q (.exit 16) F w') :
    Code.wp Tryf.prog btL16 Q ⟨#[.pointer (some ⟨H, 0, none⟩), u1, u2, u3, u4, .int .u16 (N : Nat), u6, .slice (some ⟨G, 1, none⟩) 512 512, u8, u9, u10, u11, u12, u13, u14, u15, u16, .int .u8 (M : Nat), .pointer (some ⟨A, 0, none⟩), .pointer (some ⟨B, 0, none⟩), u20, u21, u22, u23, u24, u25, v26, u27, u28, u29, u30, u31, u32, u33, u34, u35, u36, u37, u38, u39, u40, u41, u42, u43, u44, u45, u46, u47, u48, u49, u50, u51, u52, u53, u54, u55, u56, u57, u58, u59, u60, u61, u62, u63, u64, u65, u66, u67, u68, u69, u70, u71, u72, u73, u74, u75, u76, u77, u78, u79, u80, u81, u82, u83, u84, u85, u86, u87, u88, u89, u90, u91, u92, u93, u94, u95, u96, u97, u98, u99, u100, u101, u102, u103, u104, u105, u106, u107, u108, u109, u110, u111, u112, u113, u114, u115, u116, u117, u118, u119, u120, u121, u122, u123, u124, u125, u126, u127, u128, u129, u130, u131, u132, u133, u134, u135, u136, u137, u138, u139, u140, u141, u142, u143, u144, u145, u146, u147, u148, u149, u150, u151, u152, u153, u154, u155, u156, u157, u158, u159, u160, u161, u162, u163, u164, u165, u166, u167, u168, u169, u170, u171, u172, u173, u174, u175, u176, u177, u178, u179, u180, u181, u182, u183, u184, u185, u186, u187, u188, u189, u190, u191, u192, u193, u194, u195, u196, u197, u198, u199, u200, u201, u202, u203, u204, u205, u206, u207, u208, u209, u210, u211, u212, u213, u214, u215, u216, u217, u218, u219, u220, u221, u222, u223, u224, u225, u226, u227, u228, u229, u230, u231, u232, u233, u234, u235, u236, u237, u238, u239, u240, u241, u242, u243, u244, u245, u246, u247, u248, u249, u250, u251, u252, u253, u254, u255, u256, u257, u258, u259, u260, u261, u262, u263, u264, u265, u266, u267, u268, u269, u270, u271, u272, u273, u274, u275, u276, u277, u278, u279, u280, u281, u282, u283, u284, u285, u286, u287, u288, u289, u290, u291, u292, u293, u294, u295, u296, u297, u298, u299, u300, u301, u302, u303, u304, u305, u306, u307, u308, u309, u310, .slice (some ⟨G, 1, none⟩) n 512, .int .i64 (n : Nat), .int .i64 0, u314, u315, u316, u317, u318, u319, u320, u321, u322, u323, u324, u325, u326, u327, u328, u329, u330, u331, u332, u333, u334, u335, u336, u337, u338, u339, u340, u341, u342, u343, u344, u345, u346, u347, u348, u349, u350, u351, u352, u353, u354, u355, u356, u357], []⟩ wr := by
  conv => arg 2; whnf
  have HSY := Lib.hid hsy
  have H271 := Lib.hid h271
  clear hsy h271
  have HD := Lib.hid hD
  have HB := Lib.hid hB
  have HL := Lib.hid hl
  have HW := Lib.hid hW
  have HE := Lib.hid hend
  clear hD hB hl hW hend
  go_wp2_with fail
  go_loopw [313] (fun iv wr => ∃ (i : Nat) (nb : Nat → Nat), i ≤ n ∧ iv = .int .i64 (i : Nat) ∧ NbI n i sy nb ∧ EnW w H G A B Ct f (ndV (NV z n c pa sy l)) nb wr) (fun iv _ => n - (intOf iv).toNat)
  case atStart => exact ⟨0, fun _ => 0, Nat.zero_le _, rfl, ⟨fun q hq => by omega, fun _ => Nat.zero_le _, fun s hs => absurd rfl hs⟩, HW.out⟩
  case round =>
    clear HW
    obtain ⟨i, nb, hi, rfl, hI, hW⟩ := hrel
    by_cases hin : (i : Int) < (n : Int)
    · have hd : decide ((i : Int) < (n : Int)) = true := decide_eq_true hin
      obtain ⟨b1, b2, b3⟩ := HB.out i (by omega)
      obtain ⟨l1, l2⟩ := HL.out i (by omega)
      have hsi := HSY.out i (by omega)
      have hnext := hI.step (by omega) l1 l2
      obtain ⟨x, hx⟩ : ∃ x, l i = x := ⟨_, rfl⟩
      obtain ⟨s, hs⟩ : ∃ s, sy i = s := ⟨_, rfl⟩
      have kI : wr.cell? ⟨G, 1 + i, none⟩ = some (.int .u64 (nd (c i) (pa i) s x : Nat)) := by rw [← hx, ← hs]; exact hW.g.cellv (1 + i) (by omega) _ (NV_at (by omega))
      rw [hx] at l1 l2 hnext
      rw [hs] at b3 hsi hnext
      have hst := hW.alloc (.cells #[.int .u64 (nd (c i) (pa i) s x : Nat)] 110)
      have hv := RowF.newRep _ _ _ _ (rfl : wr.alloc (.cells #[.int .u64 (nd (c i) (pa i) s x : Nat)] 110) = _) (show _ = Array.replicate 1 _ from rfl)
      have HST := Lib.hid hst
      have HV := Lib.hid hv
      have HNX := Lib.hid hnext
      clear hst hv hW hx hs hI hnext
      go_upto_region 77 with fail
      generalize World.alloc _ _ = w4 at HST HV ⊢
      generalize wr.heap.size = V at HV ⊢
      have KS := Lib.hid (ndSymbol_any ((HV.out.drewN 1).cell 0 (by omega)) (by omega) (by omega) (by omega) (by omega))
      have KN := Lib.hid (ndNbBits_any ((HV.out.drewN 1).cell 0 (by omega)) (by omega) (by omega) (by omega) (by omega))
      have k271 : w4.cell? ⟨H, 271, none⟩ = some (.slice (some ⟨Ct, 0, none⟩) S 256) := HST.out.h.cellv 271 (by omega) _ H271.out
      obtain ⟨g3, hg3⟩ := HST.out.c
      have kc := hg3.cell (s * 2 + 1) (by omega)
      have zc := hg3.frozen (s * 2 + 1)
      have hss : (s : Int) < (S : Int) := by omega
      clear hg3
      refine wp_region_noPanic ?_
      refine wp_region_quiet_tail 8 (by kernel_rfl) (by kernel_rfl) ?_
      simp only [List.take_succ_cons, List.take_zero, List.drop_succ_cons, List.drop_zero]
      repeat (go_big_quiet_step (first | exact KS.out _ | exact KN.out _))
      refine wpQuiet_nil ?_
      go_wp2_with fail
      refine NoPanic.normal ?_
      go_wp2_with fail
      refine ⟨⟨i + 1, updN nb s x, by omega, by go_num, HNX.out, (HST.out.drewN 1).setN HD.out s x⟩, by simp [intOf]; omega⟩
    · have hd : decide ((i : Int) < (n : Int)) = false := decide_eq_false hin
      obtain rfl : i = n := by omega
      have HW := Lib.hid hW
      have HI := Lib.hid hI
      clear hW hI
      go_wp2_with fail
      exact HE.out _ _ ⟨⟨rfl, rfl, rfl, rfl, rfl, rfl, rfl, rfl, rfl⟩, nb, HI.out, HW.out⟩
set_option maxRecDepth 100000 in
set_option maxHeartbeats 6400000 in
theorem en_l18 {w wr : World} {H G A B Ct N M S : Nat} {f nvv : Nat → Value} {nb : Nat → Nat} (hD : EnD w H G A B Ct) (hS : S ≤ 256) (hnb : ∀ s, nb s ≤ 11) (hW : EnW w H G A B Ct f nvv nb wr) (Q : Exit → Act → World → Prop)
    (u1 u2 u3 u4 u6 u8 u9 u10 u11 u12 u13 u14 u15 u16 u20 u21 u22 u23 u24 u25 u27 u28 u29 u30 u31 u32 u33 u34 u35 u36 u37 u38 u39 u40 u41 u42 u43 u44 u45 u46 u47 u48 u49 u50 u51 u52 u53 u54 u55 u56 u57 u58 u59 u60 u61 u62 u63 u64 u65 u66 u67 u68 u69 u70 u71 u72 u73 u74 u75 u76 u77 u78 u79 u80 u81 u82 u83 u84 u85 u86 u87 u88 u89 u90 u91 u92 u93 u94 u95 u96 u97 u98 u99 u100 u101 u102 u103 u104 u105 u106 u107 u108 u109 u110 u111 u112 u113 u114 u115 u116 u117 u118 u119 u120 u121 u122 u123 u124 u125 u126 u127 u128 u129 u130 u131 u132 u133 u134 u135 u136 u137 u138 u139 u140 u141 u142 u143 u144 u145 u146 u147 u148 u149 u150 u151 u152 u153 u154 u155 u156 u157 u158 u159 u160 u161 u162 u163 u164 u165 u166 u167 u168 u169 u170 u171 u172 u173 u174 u175 u176 u177 u178 u179 u180 u181 u182 u183 u184 u185 u186 u187 u188 u189 u190 u191 u192 u193 u194 u195 u196 u197 u198 u199 u200 u201 u202 u203 u204 u205 u206 u207 u208 u209 u210 u211 u212 u213 u214 u215 u216 u217 u218 u219 u220 u221 u222 u223 u224 u225 u226 u227 u228 u229 u230 u231 u232 u233 u234 u235 u236 u237 u238 u239 u240 u241 u242 u243 u244 u245 u246 u247 u248 u249 u250 u251 u252 u253 u254 u255 u256 u257 u258 u259 u260 u261 u262 u263 u264 u265 u266 u267 u268 u269 u270 u271 u272 u273 u274 u275 u276 u277 u278 u279 u280 u281 u282 u283 u284 u285 u286 u287 u288 u289 u290 u291 u292 u293 u294 u295 u296 u297 u298 u299 u300 u301 u302 u303 u304 u305 u306 u307 u308 u309 u310 u311 u312 u313 u314 u315 u316 u317 u318 u319 u320 u321 u322 u323 u324 u325 u326 u327 u328 u329 u330 u331 u332 u333 u334 u338 u339 u340 u341 u342 u343 u344 u345 u346 u347 u348 u349 u350 u351 u352 u353 u354 u355 u356 u357 : Value)
    (hend : ∀ F w', (∃ v26, EnF H G A B N M v26 F) ∧ EnW w H G A B Ct f nvv nb w' → Q (.exit 18) F w') :
    Code.wp Tryf.prog btL18 Q ⟨#[.pointer (some ⟨H, 0, none⟩), u1, u2, u3, u4, .int .u16 (N : Nat), u6, .slice (some ⟨G, 1, none⟩) 512 512, u8, u9, u10, u11, u12, u13, u14, u15, u16, .int .u8 (M : Nat), .pointer (some ⟨A, 0, none⟩), .pointer (some ⟨B, 0, none⟩), u20, u21, u22, u23, u24, u25, .slice (some ⟨Ct, 0, none⟩) S 256, u27, u28, u29, u30, u31, u32, u33, u34, u35, u36, u37, u38, u39, u40, u41, u42, u43, u44, u45, u46, u47, u48, u49, u50, u51, u52, u53, u54, u55, u56, u57, u58, u59, u60, u61, u62, u63, u64, u65, u66, u67, u68, u69, u70, u71, u72, u73, u74, u75, u76, u77, u78, u79, u80, u81, u82, u83, u84, u85, u86, u87, u88, u89, u90, u91, u92, u93, u94, u95, u96, u97, u98, u99, u100, u101, u102, u103, u104, u105, u106, u107, u108, u109, u110, u111, u112, u113, u114, u115, u116, u117, u118, u119, u120, u121, u122, u123, u124, u125, u126, u127, u128, u129, u130, u131, u132, u133, u134, u135, u136, u137, u138, u139, u140, u141, u142, u143, u144, u145, u146, u147, u148, u149, u150, u151, u152, u153, u154, u155, u156, u157, u158, u159, u160, u161, u162, u163, u164, u165, u166, u167, u168, u169, u170, u171, u172, u173, u174, u175, u176, u177, u178, u179, u180, u181, u182, u183, u184, u185, u186, u187, u188, u189, u190, u191, u192, u193, u194, u195, u196, u197, u198, u199, u200, u201, u202, u203, u204, u205, u206, u207, u208, u209, u210, u211, u212, u213, u214, u215, u216, u217, u218, u219, u220, u221, u222, u223, u224, u225, u226, u227, u228, u229, u230, u231, u232, u233, u234, u235, u236, u237, u238, u239, u240, u241, u242, u243, u244, u245, u246, u247, u248, u249, u250, u251, u252, u253, u254, u255, u256, u257, u258, u259, u260, u261, u262, u263, u264, u265, u266, u267, u268, u269, u270, u271, u272, u273, u274, u275, u276, u277, u278, u279, u280, u281, u282, u283, u284, u285, u286, u287, u288, u289, u290, u291, u292, u293, u294, u295, u296, u297, u298, u299, u300, u301, u302, u303, u304, u305, u306, u307, u308, u309, u310, u311, u312, u313, u314, u315, u316, u317, u318, u319, u320, u321, u322, u323, u324, u325, u326, u327, u328, u329, u330, u331, u332, u333, u334, .slice (some ⟨Ct, 0, none⟩) S 256, .int .i64 (S : Nat), .int .i64 0, u338, u339, u340, u341, u342, u343, u344, u345, u346, u347, u348, u349, u350, u351, u352, u353, u354, u355, u356, u357], []⟩ wr := by
  conv => arg 2; whnf
  have HD := Lib.hid hD
  have HNB := Lib.hid hnb
  have HW := Lib.hid hW
  have HE := Lib.hid hend
  clear hD hnb hW hend
  go_wp2_with fail
  go_loopw [337] (fun iv wr => ∃ i : Nat, i ≤ S ∧ iv = .int .i64 (i : Nat) ∧ EnW w H G A B Ct f nvv nb wr) (fun iv _ => S - (intOf iv).toNat)
  case atStart => exact ⟨0, Nat.zero_le _, rfl, HW.out⟩
  case round =>
    clear HW
    obtain ⟨i, hi, rfl, hW⟩ := hrel
    by_cases hin : (i : Int) < (S : Int)
    · have hd : decide ((i : Int) < (S : Int)) = true := decide_eq_true hin
      obtain ⟨g3, hg3⟩ := hW.c
      have kc0 : wr.cell? ⟨Ct, i * 2, none⟩ = some (.int .u16 (g3 i)) := hg3.cellv (i * 2) (by omega) _ (by unfold cV; rw [if_pos (by omega), show i * 2 / 2 = i by omega])
      have kc1 : wr.cell? ⟨Ct, i * 2 + 1, none⟩ = some (.int .u8 (nb i : Nat)) := hg3.cellv (i * 2 + 1) (by omega) _ (by unfold cV; rw [if_neg (by omega), show (i * 2 + 1) / 2 = i by omega])
      have hx11 := HNB.out i
      generalize g3 i = gi at kc0
      generalize nb i = x at kc1 hx11
      have HW := Lib.hid hW
      clear hW hg3
      go_upto_region 83 with fail
      have hst := HW.out.alloc (.cells #[.int .u16 gi, .int .u8 (x : Nat)] 78)
      have kv : (wr.alloc (.cells #[.int .u16 gi, .int .u8 (x : Nat)] 78)).cell? ⟨wr.heap.size, 1, none⟩ = some (.int .u8 (x : Nat)) := cell_of_row _ _ 1 _ _ (0, 0) (heap_alloc_new _ _)
      generalize World.alloc _ _ = w4 at hst kv ⊢
      generalize wr.heap.size = V at kv ⊢
      obtain ⟨g3, hg3⟩ := hst.c
      have kc := hg3.cell (i * 2) (by omega)
      have zc := hg3.frozen (i * 2)
      obtain ⟨g2, hg2⟩ := hst.b
      have kb : w4.cell? ⟨B, x, none⟩ = some (.int .u16 (g2 x)) := hg2.cell x (by omega)
      generalize g2 x = gx at kb
      have e15 := and8_15 x (by omega)
      rw [Nat.mod_eq_of_lt (show x < 16 by omega)] at e15
      have hx16 : (x : Int) < 16 := by omega
      have hst2 := hst.setV HD.out i gx
      have HST2 := Lib.hid hst2
      clear hst hst2 hg3 hg2 kc0 kc1
      go_upto_region 86 with fail
      generalize World.setCell _ _ _ = w5 at HST2 ⊢
      obtain ⟨g2, hg2⟩ := HST2.out.b
      have kb2 : w5.cell? ⟨B, x, none⟩ = some (.int .u16 (g2 x)) := hg2.cell x (by omega)
      have zb2 := hg2.frozen x
      clear kb kv kc zc hg2
      go_wp2_with fail
      refine ⟨⟨i + 1, by omega, by go_num, HST2.out.setB HD.out x _⟩, by simp [intOf]; omega⟩
    · have hd : decide ((i : Int) < (S : Int)) = false := decide_eq_false hin
      have HW := Lib.hid hW
      clear hW
      go_wp2_with fail
      exact HE.out _ _ ⟨⟨_, ⟨rfl, rfl, rfl, rfl, rfl, rfl, rfl, rfl, rfl⟩⟩, HW.out⟩
end Go.Proofs.YthkklojjpgjiiaaFmt
