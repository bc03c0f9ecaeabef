/-
  snapref.decode: the tail of a literal of N + 1 bytes from p on. Conditions: those of the theorem.
-/
import Derived.Test.YthiklljhhnedkaaDoorSnGoD
namespace Go.Proofs.YthiklljhhnedkaaDoor
open Go.RowKit

set_option maxRecDepth 100000 in
set_option maxHeartbeats 6400000 in
theorem lit_tail (q : List UInt8) (L g gq oq c : Nat) (D : Option Addr) (w : World) (R : Option (List UInt8) × Nat) (k p N : Nat) (P : Int) (o z : List UInt8) (wr : World) (Q : Exit → Act → World → Prop) (K : Act → World → Prop)
    (u2 u3 u4 u7 u8 u10 u11 u12 u13 u14 u15 u16 u17 u18 u19 u20 u21 u22 u23 u24 u25 u26 u27 u28 u29 u30 u31 u32 u33 u34 u35 u36 u37 u38 u39 u40 u41 u42 u43 u44 u45 u46 u47 u48 u49 u50 u51 u52 u53 u54 u55 u56 u57 u58 u59 u60 u61 u62 u63 u64 u65 u66 u67 u68 u69 u70 u71 u72 u73 u74 u75 u76 u77 u78 u79 u80 u81 u82 u83 u84 u85 u86 u87 u88 u89 u90 u91 u92 u93 u94 u95 u96 u97 u98 u99 u100 u101 u102 u103 u104 u105 u106 u107 u108 u109 u110 u111 u112 u113 u114 u115 u116 u117 u118 u119 u120 u121 u122 u123 u124 u125 u126 u127 u128 u129 u130 u131 u132 u133 u134 u135 u136 u137 u138 u139 u140 u141 u142 u143 u144 u145 u146 u147 u148 u149 u150 u151 u152 u153 u154 u155 u156 u157 u158 u159 u160 u161 u162 u163 u164 u165 u166 u167 u168 u169 u170 u171 u172 u173 u174 u175 u176 u177 u178 u179 u180 u181 u182 u183 u184 u185 u186 u187 u188 u189 u190 u191 u192 u193 u194 u195 u196 u197 u198 u199 u200 u201 u202 u203 u204 u205 u206 u207 u208 u209 u210 u211 u212 u213 u214 u215 u216 u217 u218 u219 u220 u221 u222 u223 u224 u225 u226 u227 u228 u229 u230 u231 u232 u233 u234 u235 u236 u237 u238 u239 u240 u241 u242 u243 u244 u245 u246 u247 u248 u249 u250 u251 u252 u253 u254 u255 u256 u257 u258 u259 u260 u261 u262 u263 u264 u265 u266 u267 u268 u269 u270 u271 u272 u273 u274 u275 u276 u277 u278 u279 u280 u281 u282 u283 u284 u285 u286 u287 u288 u289 u290 u291 u292 u293 u294 u295 u296 u297 u298 u299 u300 u301 u302 u303 u304 u305 u306 u307 u308 u309 u310 u311 u312 u313 u314 u315 u316 u317 u318 u319 u320 u321 u322 u323 u324 u325 u326 u327 u328 u329 u330 u331 u332 u333 u334 u335 u336 u337 u338 u339 u340 u341 u342 u343 u344 u345 u346 u347 u348 u349 u350 u351 u352 u353 u354 u355 u356 u357 u358 u359 u360 u361 u362 u363 u364 u365 u366 u367 u368 u369 u370 : Value)
    (hn : q.length ≤ 2147483647) (hm : c ≤ 9223372036854775807) (hcc : q.length ≤ c) (hLm : L ≤ 200000) (hsl : Sl wr g (some ⟨gq, oq, none⟩) q.length c q)
    (hoz : o.length + z.length = L) (hD : 0 < L → D = some ⟨g, 0, none⟩) (HW : 0 < L → wr.heap[g]? = some (.cells (Lib.byteCells (o ++ z)).toArray 5 (0, 0))) (hb : Below g w wr) (hkp : k < p) (hpq : p ≤ q.length) (hN : N < 4294967296)
    (hbad : q.length < p + (N + 1) ∨ L < o.length + (N + 1) → R = (none, 1)) (hgood : p + (N + 1) ≤ q.length → snGo q L (p + (N + 1)) (o ++ (q.drop p).take (N + 1)) = R)
    (hP : P = (p : Int)) (hexit : ∀ F w', Nxt q L g D (some ⟨gq, oq, none⟩) c w R k F w' → Q (.exit 1) F w') (hret : ∀ F w', Bad g w R F w' → Q .ret F w') (hKK : ∀ F w', Code.wp Tryd.prog (cR litCode) Q F w' → K F w') :
    Code.wp Tryd.prog (cL litCode) (Exit.then K Q) ⟨#[.slice D L L, .slice (some ⟨gq, oq, none⟩) q.length c, u2, u3, u4, .int .i64 o.length, .int .i64 P, u7, u8, .int .u32 N, u10, u11, u12, u13, u14, u15, u16, u17, u18, u19, u20, u21, u22, u23, u24, u25, u26, u27, u28, u29, u30, u31, u32, u33, u34, u35, u36, u37, u38, u39, u40, u41, u42, u43, u44, u45, u46, u47, u48, u49, u50, u51, u52, u53, u54, u55, u56, u57, u58, u59, u60, u61, u62, u63, u64, u65, u66, u67, u68, u69, u70, u71, u72, u73, u74, u75, u76, u77, u78, u79, u80, u81, u82, u83, u84, u85, u86, u87, u88, u89, u90, u91, u92, u93, u94, u95, u96, u97, u98, u99, u100, u101, u102, u103, u104, u105, u106, u107, u108, u109, u110, u111, u112, u113, u114, u115, u116, u117, u118, u119, u120, u121, u122, u123, u124, u125, u126, u127, u128, u129, u130, u131, u132, u133, u134, u135, u136, u137, u138, u139, u140, u141, u142, u143, u144, u145, u146, u147, u148, u149, u150, u151, u152, u153, u154, u155, u156, u157, u158, u159, u160, u161, u162, u163, u164, u165, u166, u167, u168, u169, u170, u171, u172, u173, u174, u175, u176, u177, u178, u179, u180, u181, u182, u183, u184, u185, u186, u187, u188, u189, u190, u191, u192, u193, u194, u195, u196, u197, u198, u199, u200, u201, u202, u203, u204, u205, u206, u207, u208, u209, u210, u211, u212, u213, u214, u215, u216, u217, u218, u219, u220, u221, u222, u223, u224, u225, u226, u227, u228, u229, u230, u231, u232, u233, u234, u235, u236, u237, u238, u239, u240, u241, u242, u243, u244, u245, u246, u247, u248, u249, u250, u251, u252, u253, u254, u255, u256, u257, u258, u259, u260, u261, u262, u263, u264, u265, u266, u267, u268, u269, u270, u271, u272, u273, u274, u275, u276, u277, u278, u279, u280, u281, u282, u283, u284, u285, u286, u287, u288, u289, u290, u291, u292, u293, u294, u295, u296, u297, u298, u299, u300, u301, u302, u303, u304, u305, u306, u307, u308, u309, u310, u311, u312, u313, u314, u315, u316, u317, u318, u319, u320, u321, u322, u323, u324, u325, u326, u327, u328, u329, u330, u331, u332, u333, u334, u335, u336, u337, u338, u339, u340, u341, u342, u343, u344, u345, u346, u347, u348, u349, u350, u351, u352, u353, u354, u355, u356, u357, u358, u359, u360, u361, u362, u363, u364, u365, u366, u367, u368, u369, u370], []⟩ wr := by
  subst hP
  refine wp_mono (?_ : Code.wp Tryd.prog (cL litCode) (Exit.then (fun F w' => Code.wp Tryd.prog (cR litCode) Q F w') Q) _ wr) (fun e F w' hq => ?_)
  case refine_2 =>
    cases e with
    | normal => exact hKK _ _ hq
    | exit id => exact hq
    | goto l => exact hq
    | ret => exact hq
    | panic ch => exact hq
    | outgrown => exact hq
  clear hKK
  conv => arg 2; whnf
  have HS := Lib.hid hsl
  have HG := Lib.hid HW
  have HDD := Lib.hid hD
  have HB := Lib.hid hbad
  have HK := Lib.hid hgood
  have HOZ := Lib.hid hoz
  have w1 : IntKind.i64.wrap ((N : Int) + 1) = (N : Int) + 1 := by rw [IntKind.wrap_i64]; omega
  have w2 : ((N : Int) + 1 ≤ 0) = False := by simp only [eq_iff_iff, iff_false]; omega
  have g2 : IntKind.i64.wrap ((L : Int) - (o.length : Int)) = (L : Int) - (o.length : Int) := by rw [IntKind.wrap_i64]; omega
  have g4 : IntKind.i64.wrap ((q.length : Int) - (p : Int)) = (q.length : Int) - (p : Int) := by rw [IntKind.wrap_i64]; omega
  clear hsl HW hD hbad hgood
  go_wp2_with fail
  conv => arg 2; whnf
  by_cases hno1 : L < o.length + (N + 1)
  · have g1 : (L : Int) - (o.length : Int) < (N : Int) + 1 := by omega
    have hbb := Lib.hid (HB.out (.inr hno1))
    clear hno1 hoz HB HK hexit
    go_wp2_with fail
    exact ⟨rfl, rfl, rfl, hb, hbb.out⟩
  · by_cases hno2 : q.length < p + (N + 1)
    · have g1 : (N : Int) + 1 ≤ (L : Int) - (o.length : Int) := by omega
      have g3 : (q.length : Int) - (p : Int) < (N : Int) + 1 := by omega
      have hbb := Lib.hid (HB.out (.inl hno2))
      clear hno1 hno2 hoz HB HK hexit
      go_wp2_with fail
      exact ⟨rfl, rfl, rfl, hb, hbb.out⟩
    · have HL0 : 0 < L := by omega
      obtain rfl := HDD.out HL0
      have HG := Lib.hid (HG.out HL0)
      have g1 : (N : Int) + 1 ≤ (L : Int) - (o.length : Int) := by omega
      have g3 : (N : Int) + 1 ≤ (q.length : Int) - (p : Int) := by omega
      have g5 : IntKind.i64.wrap ((p : Int) + ((N : Int) + 1)) = (p : Int) + ((N : Int) + 1) := by rw [IntKind.wrap_i64]; omega
      have g6 : IntKind.i64.wrap ((o.length : Int) + ((N : Int) + 1)) = (o.length : Int) + ((N : Int) + 1) := by rw [IntKind.wrap_i64]; omega
      have hpi : (p : Int) < (q.length : Int) := by omega
      have HN1 := Lib.hid hno1
      have HN2 := Lib.hid hno2
      clear hno1 hno2 hoz HB hret
      go_wp2_with fail
      refine wp_region_quiet_tail 9 (by kernel_rfl) (by kernel_rfl) ?_
      simp only [List.take_succ_cons, List.take_zero, List.drop_succ_cons, List.drop_zero]
      repeat (go_big_quiet_step (fail))
      refine wpQuiet_nil ?_
      obtain ⟨M, hM⟩ : ∃ M, (q.drop p).take (N + 1) = M := ⟨_, rfl⟩
      have hMl : M.length = N + 1 := by rw [← hM]; simp; have := HN2.out; omega
      have hOZ := HOZ.out
      have hK := HK.out (by have := HN2.out; omega)
      rw [hM] at hK
      have hsp := snGo_spl (o := o) (z := z) M
      refine wpList_copy_splice (by rfl) (.tmp 172) (.tmp 178) 22 22 (by rfl) 5 Tryd.underlying22 (by kernel_rfl) (some ⟨g, o.length, none⟩) (some ⟨gq, oq + p, none⟩) (L - o.length) (L - o.length) (p + (N + 1) - p) (c - p) (by rfl) (by rfl) g o.length (Lib.byteCells (o ++ z)) 5 HG.out (Lib.byteCells M) (by rw [byteCells_len, hMl]; have := HN1.out; simp [Nat.min_def]; omega) (fun _ => ⟨rfl, ⟨gq, oq + p, none⟩, rfl, fun j v hv => by rw [← hM] at hv; exact sl_cells HS.out p (N + 1) j v hv⟩) (by rw [byteCells_len, byteCells_len, hMl]; simp; have := HN1.out; omega) (fun v hv => byteCells_one hv) g w (below_drewN hb 1) (Nat.le_refl g) ?_
      intro w' hG2 hB2
      rw [hsp] at hG2
      have HG2 := Lib.hid hG2.out
      have HKK := Lib.hid hK
      have hd5 : (o.length : Int) + ((N : Int) + 1) = (((o ++ M).length : Nat) : Int) := by simp [hMl]
      have hd6 : (p : Int) + ((N : Int) + 1) = ((p + (N + 1) : Nat) : Int) := by simp
      have HD5 := Lib.hid hd5
      have HD6 := Lib.hid hd6
      have HML := Lib.hid hMl
      clear hG2 hK hd5 hd6 hMl hM hsp hOZ
      go_wp2_with fail
      exact ⟨p + (N + 1), o ++ M, z.drop M.length, ⟨rfl, rfl, rfl, rfl, congrArg (Value.int .i64) HD5.out, congrArg (Value.int .i64) HD6.out⟩, by omega, by have := HN2.out; omega, by have := HML.out; have := HOZ.out; have := HN1.out; simp; omega, fun _ => HG2.out, hB2, HKK.out⟩
end Go.Proofs.YthiklljhhnedkaaDoor
