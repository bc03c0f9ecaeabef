/-
  snapref.decode: one round at a literal. Conditions: those of each theorem.
-/
import Derived.Test.YthiklljhhnedkaaDoorSnLitT
import Derived.Deep.Cut
namespace Go.Proofs.YthiklljhhnedkaaDoor
open Go.RowKit

set_option maxRecDepth 100000 in
set_option maxHeartbeats 6400000 in
theorem lit_small (q : List UInt8) (L g gq oq c : Nat) (D : Option Addr) (w : World) (R : Option (List UInt8) × Nat) (k f x : Nat) (o z : List UInt8) (wr : World) (Q : Exit → Act → World → Prop)
    (u2 u3 u4 u7 u8 u9 u10 u11 u12 u13 u14 u15 u16 u17 u18 u19 u20 u21 u22 u23 u24 u25 u26 u27 u28 u29 u30 u31 u32 u33 u34 u35 u36 u37 u38 u39 u40 u41 u42 u43 u44 u45 u46 u47 u48 u49 u50 u51 u52 u53 u54 u55 u56 u57 u58 u59 u60 u61 u62 u63 u64 u65 u66 u67 u68 u69 u70 u71 u72 u73 u74 u75 u76 u77 u78 u79 u80 u81 u82 u83 u84 u85 u86 u87 u88 u89 u90 u91 u92 u93 u94 u95 u96 u97 u98 u99 u100 u101 u102 u103 u104 u105 u106 u107 u108 u109 u110 u111 u112 u113 u114 u115 u116 u117 u118 u119 u120 u121 u122 u123 u124 u125 u126 u127 u128 u129 u130 u131 u132 u133 u134 u135 u136 u137 u138 u139 u140 u141 u142 u143 u144 u145 u146 u147 u148 u149 u150 u151 u152 u153 u154 u155 u156 u157 u158 u159 u160 u161 u162 u163 u164 u165 u166 u167 u168 u169 u170 u171 u172 u173 u174 u175 u176 u177 u178 u179 u180 u181 u182 u183 u184 u185 u186 u187 u188 u189 u190 u191 u192 u193 u194 u195 u196 u197 u198 u199 u200 u201 u202 u203 u204 u205 u206 u207 u208 u209 u210 u211 u212 u213 u214 u215 u216 u217 u218 u219 u220 u221 u222 u223 u224 u225 u226 u227 u228 u229 u230 u231 u232 u233 u234 u235 u236 u237 u238 u239 u240 u241 u242 u243 u244 u245 u246 u247 u248 u249 u250 u251 u252 u253 u254 u255 u256 u257 u258 u259 u260 u261 u262 u263 u264 u265 u266 u267 u268 u269 u270 u271 u272 u273 u274 u275 u276 u277 u278 u279 u280 u281 u282 u283 u284 u285 u286 u287 u288 u289 u290 u291 u292 u293 u294 u295 u296 u297 u298 u299 u300 u301 u302 u303 u304 u305 u306 u307 u308 u309 u310 u311 u312 u313 u314 u315 u316 u317 u318 u319 u320 u321 u322 u323 u324 u325 u326 u327 u328 u329 u330 u331 u332 u333 u334 u335 u336 u337 u338 u339 u340 u341 u342 u343 u344 u345 u346 u347 u348 u349 u350 u351 u352 u353 u354 u355 u356 u357 u358 u359 u360 u361 u362 u363 u364 u365 u366 u367 u368 u369 u370 : Value)
    (hn : q.length ≤ 2147483647) (hm : c ≤ 9223372036854775807) (hcc : q.length ≤ c) (hLm : L ≤ 200000) (hsl : Sl wr g (some ⟨gq, oq, none⟩) q.length c q)
    (hoz : o.length + z.length = L) (hD : 0 < L → D = some ⟨g, 0, none⟩) (HW : 0 < L → wr.heap[g]? = some (.cells (Lib.byteCells (o ++ z)).toArray 5 (0, 0))) (hb : Below g w wr) (hlt : k < q.length) (hX : snGo q L k o = R) (hfe : (q.getD k 0).toNat = f) (hf : f < 256) (hx : f / 4 = x)
    (hJ : ∀ F w', Nxt q L g D (some ⟨gq, oq, none⟩) c w R k F w' → Q .normal F w') (hret : ∀ F w', Bad g w R F w' → Q .ret F w')
    (ht : f % 4 = 0) (h60 : x < 60) : Code.wp Tryd.prog snBody Q ⟨#[.slice D L L, .slice (some ⟨gq, oq, none⟩) q.length c, u2, u3, u4, .int .i64 o.length, .int .i64 k, u7, u8, u9, u10, u11, u12, u13, u14, u15, u16, u17, u18, u19, u20, u21, u22, u23, u24, u25, u26, u27, u28, u29, u30, u31, u32, u33, u34, u35, u36, u37, u38, u39, u40, u41, u42, u43, u44, u45, u46, u47, u48, u49, u50, u51, u52, u53, u54, u55, u56, u57, u58, u59, u60, u61, u62, u63, u64, u65, u66, u67, u68, u69, u70, u71, u72, u73, u74, u75, u76, u77, u78, u79, u80, u81, u82, u83, u84, u85, u86, u87, u88, u89, u90, u91, u92, u93, u94, u95, u96, u97, u98, u99, u100, u101, u102, u103, u104, u105, u106, u107, u108, u109, u110, u111, u112, u113, u114, u115, u116, u117, u118, u119, u120, u121, u122, u123, u124, u125, u126, u127, u128, u129, u130, u131, u132, u133, u134, u135, u136, u137, u138, u139, u140, u141, u142, u143, u144, u145, u146, u147, u148, u149, u150, u151, u152, u153, u154, u155, u156, u157, u158, u159, u160, u161, u162, u163, u164, u165, u166, u167, u168, u169, u170, u171, u172, u173, u174, u175, u176, u177, u178, u179, u180, u181, u182, u183, u184, u185, u186, u187, u188, u189, u190, u191, u192, u193, u194, u195, u196, u197, u198, u199, u200, u201, u202, u203, u204, u205, u206, u207, u208, u209, u210, u211, u212, u213, u214, u215, u216, u217, u218, u219, u220, u221, u222, u223, u224, u225, u226, u227, u228, u229, u230, u231, u232, u233, u234, u235, u236, u237, u238, u239, u240, u241, u242, u243, u244, u245, u246, u247, u248, u249, u250, u251, u252, u253, u254, u255, u256, u257, u258, u259, u260, u261, u262, u263, u264, u265, u266, u267, u268, u269, u270, u271, u272, u273, u274, u275, u276, u277, u278, u279, u280, u281, u282, u283, u284, u285, u286, u287, u288, u289, u290, u291, u292, u293, u294, u295, u296, u297, u298, u299, u300, u301, u302, u303, u304, u305, u306, u307, u308, u309, u310, u311, u312, u313, u314, u315, u316, u317, u318, u319, u320, u321, u322, u323, u324, u325, u326, u327, u328, u329, u330, u331, u332, u333, u334, u335, u336, u337, u338, u339, u340, u341, u342, u343, u344, u345, u346, u347, u348, u349, u350, u351, u352, u353, u354, u355, u356, u357, u358, u359, u360, u361, u362, u363, u364, u365, u366, u367, u368, u369, u370], []⟩ wr := by
  conv => arg 2; whnf
  have hoL : o.length ≤ L := by omega
  have hcf : wr.cell? ⟨gq, oq + k, none⟩ = some (.int .u8 (f : Int)) := by rw [← hfe]; exact sl_cell hsl hlt
  have hki : (k : Int) < (q.length : Int) := by omega
  have hfx : (f : Int) / 4 = x := by omega
  have hfi : (f : Int) < 256 := by omega
  have HS := Lib.hid hsl
  have HG := Lib.hid HW
  have HDD := Lib.hid hD
  have HX := Lib.hid hX
  have HFE := Lib.hid hfe
  have HOZ := Lib.hid hoz
  have HLT := Lib.hid hlt
  have h3 : bits .and .u8 (f : Int) 3 = 0 := by rw [and3_u8 f hf, ht]; rfl
  have h60i : (x : Int) < 60 := by omega
  have he : snElem q k o (q.getD k 0).toNat = snLit q (k + 1) (x + 1) o := by rw [hfe, snElem_small ht (by omega), hx]
  have HE := Lib.hid he
  have hk1w : IntKind.i64.wrap ((k : Int) + 1) = (k : Int) + 1 := by rw [IntKind.wrap_i64]; omega
  have HR2 := Lib.hid hret
  have HJ := Lib.hid hJ
  clear hsl HW hD hX hfe hoz hlt he hret hJ ht hx
  go_upto_region 28 with fail
  refine lit_tail q L g gq oq c D w R k (k + 1) x _ o z wr _ _ _ _ _ _ _ _ _ _ _ _ _ _ _ _ _ _ _ _ _ _ _ _ _ _ _ _ _ _ _ _ _ _ _ _ _ _ _ _ _ _ _ _ _ _ _ _ _ _ _ _ _ _ _ _ _ _ _ _ _ _ _ _ _ _ _ _ _ _ _ _ _ _ _ _ _ _ _ _ _ _ _ _ _ _ _ _ _ _ _ _ _ _ _ _ _ _ _ _ _ _ _ _ _ _ _ _ _ _ _ _ _ _ _ _ _ _ _ _ _ _ _ _ _ _ _ _ _ _ _ _ _ _ _ _ _ _ _ _ _ _ _ _ _ _ _ _ _ _ _ _ _ _ _ _ _ _ _ _ _ _ _ _ _ _ _ _ _ _ _ _ _ _ _ _ _ _ _ _ _ _ _ _ _ _ _ _ _ _ _ _ _ _ _ _ _ _ _ _ _ _ _ _ _ _ _ _ _ _ _ _ _ _ _ _ _ _ _ _ _ _ _ _ _ _ _ _ _ _ _ _ _ _ _ _ _ _ _ _ _ _ _ _ _ _ _ _ _ _ _ _ _ _ _ _ _ _ _ _ _ _ _ _ _ _ _ _ _ _ _ _ _ _ _ _ _ _ _ _ _ _ _ _ _ _ _ _ _ _ _ _ _ _ _ _ _ _ _ _ _ _ _ _ _ _ _ _ _ _ _ _ _ _ _ _ _ _ _ _ _ _ _ _ _ _ _ _ _ _ _ _ _ _ _ _ _ _ _ _ _ _ _ _ _ _ _ _ _ _ _ _ _ _ _ _ _ _ _ _ _ _ _ _ _ _ _ _ hn hm hcc hLm HS.out HOZ.out HDD.out HG.out hb (by omega) (by omega) (by omega) ?_ ?_ ?_ ?_ ?_ ?_
  · intro h; exact HX.out.symm.trans (snGo_lit_no HLT.out hoL HE.out h)
  · intro h; exact (snGo_lit_yes HLT.out hoL HE.out h).symm.trans HX.out
  · omega
  · exact fun F w' h => HJ.out F w' h
  · exact fun F w' h => HR2.out F w' h
  · assumption

set_option maxRecDepth 100000 in
set_option maxHeartbeats 6400000 in
theorem lit_big1 (q : List UInt8) (L g gq oq c : Nat) (D : Option Addr) (w : World) (R : Option (List UInt8) × Nat) (k f x : Nat) (o z : List UInt8) (wr : World) (Q : Exit → Act → World → Prop)
    (u2 u3 u4 u7 u8 u9 u10 u11 u12 u13 u14 u15 u16 u17 u18 u19 u20 u21 u22 u23 u24 u25 u26 u27 u28 u29 u30 u31 u32 u33 u34 u35 u36 u37 u38 u39 u40 u41 u42 u43 u44 u45 u46 u47 u48 u49 u50 u51 u52 u53 u54 u55 u56 u57 u58 u59 u60 u61 u62 u63 u64 u65 u66 u67 u68 u69 u70 u71 u72 u73 u74 u75 u76 u77 u78 u79 u80 u81 u82 u83 u84 u85 u86 u87 u88 u89 u90 u91 u92 u93 u94 u95 u96 u97 u98 u99 u100 u101 u102 u103 u104 u105 u106 u107 u108 u109 u110 u111 u112 u113 u114 u115 u116 u117 u118 u119 u120 u121 u122 u123 u124 u125 u126 u127 u128 u129 u130 u131 u132 u133 u134 u135 u136 u137 u138 u139 u140 u141 u142 u143 u144 u145 u146 u147 u148 u149 u150 u151 u152 u153 u154 u155 u156 u157 u158 u159 u160 u161 u162 u163 u164 u165 u166 u167 u168 u169 u170 u171 u172 u173 u174 u175 u176 u177 u178 u179 u180 u181 u182 u183 u184 u185 u186 u187 u188 u189 u190 u191 u192 u193 u194 u195 u196 u197 u198 u199 u200 u201 u202 u203 u204 u205 u206 u207 u208 u209 u210 u211 u212 u213 u214 u215 u216 u217 u218 u219 u220 u221 u222 u223 u224 u225 u226 u227 u228 u229 u230 u231 u232 u233 u234 u235 u236 u237 u238 u239 u240 u241 u242 u243 u244 u245 u246 u247 u248 u249 u250 u251 u252 u253 u254 u255 u256 u257 u258 u259 u260 u261 u262 u263 u264 u265 u266 u267 u268 u269 u270 u271 u272 u273 u274 u275 u276 u277 u278 u279 u280 u281 u282 u283 u284 u285 u286 u287 u288 u289 u290 u291 u292 u293 u294 u295 u296 u297 u298 u299 u300 u301 u302 u303 u304 u305 u306 u307 u308 u309 u310 u311 u312 u313 u314 u315 u316 u317 u318 u319 u320 u321 u322 u323 u324 u325 u326 u327 u328 u329 u330 u331 u332 u333 u334 u335 u336 u337 u338 u339 u340 u341 u342 u343 u344 u345 u346 u347 u348 u349 u350 u351 u352 u353 u354 u355 u356 u357 u358 u359 u360 u361 u362 u363 u364 u365 u366 u367 u368 u369 u370 : Value)
    (hn : q.length ≤ 2147483647) (hm : c ≤ 9223372036854775807) (hcc : q.length ≤ c) (hLm : L ≤ 200000) (hsl : Sl wr g (some ⟨gq, oq, none⟩) q.length c q)
    (hoz : o.length + z.length = L) (hD : 0 < L → D = some ⟨g, 0, none⟩) (HW : 0 < L → wr.heap[g]? = some (.cells (Lib.byteCells (o ++ z)).toArray 5 (0, 0))) (hb : Below g w wr) (hlt : k < q.length) (hX : snGo q L k o = R) (hfe : (q.getD k 0).toNat = f) (hf : f < 256) (hx : f / 4 = x)
    (hJ : ∀ F w', Nxt q L g D (some ⟨gq, oq, none⟩) c w R k F w' → Q .normal F w') (hret : ∀ F w', Bad g w R F w' → Q .ret F w')
    (ht : f % 4 = 0) (h60 : x = 60) : Code.wp Tryd.prog snBody Q ⟨#[.slice D L L, .slice (some ⟨gq, oq, none⟩) q.length c, u2, u3, u4, .int .i64 o.length, .int .i64 k, u7, u8, u9, u10, u11, u12, u13, u14, u15, u16, u17, u18, u19, u20, u21, u22, u23, u24, u25, u26, u27, u28, u29, u30, u31, u32, u33, u34, u35, u36, u37, u38, u39, u40, u41, u42, u43, u44, u45, u46, u47, u48, u49, u50, u51, u52, u53, u54, u55, u56, u57, u58, u59, u60, u61, u62, u63, u64, u65, u66, u67, u68, u69, u70, u71, u72, u73, u74, u75, u76, u77, u78, u79, u80, u81, u82, u83, u84, u85, u86, u87, u88, u89, u90, u91, u92, u93, u94, u95, u96, u97, u98, u99, u100, u101, u102, u103, u104, u105, u106, u107, u108, u109, u110, u111, u112, u113, u114, u115, u116, u117, u118, u119, u120, u121, u122, u123, u124, u125, u126, u127, u128, u129, u130, u131, u132, u133, u134, u135, u136, u137, u138, u139, u140, u141, u142, u143, u144, u145, u146, u147, u148, u149, u150, u151, u152, u153, u154, u155, u156, u157, u158, u159, u160, u161, u162, u163, u164, u165, u166, u167, u168, u169, u170, u171, u172, u173, u174, u175, u176, u177, u178, u179, u180, u181, u182, u183, u184, u185, u186, u187, u188, u189, u190, u191, u192, u193, u194, u195, u196, u197, u198, u199, u200, u201, u202, u203, u204, u205, u206, u207, u208, u209, u210, u211, u212, u213, u214, u215, u216, u217, u218, u219, u220, u221, u222, u223, u224, u225, u226, u227, u228, u229, u230, u231, u232, u233, u234, u235, u236, u237, u238, u239, u240, u241, u242, u243, u244, u245, u246, u247, u248, u249, u250, u251, u252, u253, u254, u255, u256, u257, u258, u259, u260, u261, u262, u263, u264, u265, u266, u267, u268, u269, u270, u271, u272, u273, u274, u275, u276, u277, u278, u279, u280, u281, u282, u283, u284, u285, u286, u287, u288, u289, u290, u291, u292, u293, u294, u295, u296, u297, u298, u299, u300, u301, u302, u303, u304, u305, u306, u307, u308, u309, u310, u311, u312, u313, u314, u315, u316, u317, u318, u319, u320, u321, u322, u323, u324, u325, u326, u327, u328, u329, u330, u331, u332, u333, u334, u335, u336, u337, u338, u339, u340, u341, u342, u343, u344, u345, u346, u347, u348, u349, u350, u351, u352, u353, u354, u355, u356, u357, u358, u359, u360, u361, u362, u363, u364, u365, u366, u367, u368, u369, u370], []⟩ wr := by
  conv => arg 2; whnf
  have hoL : o.length ≤ L := by omega
  have hcf : wr.cell? ⟨gq, oq + k, none⟩ = some (.int .u8 (f : Int)) := by rw [← hfe]; exact sl_cell hsl hlt
  have hki : (k : Int) < (q.length : Int) := by omega
  have hfx : (f : Int) / 4 = x := by omega
  have hfi : (f : Int) < 256 := by omega
  have HS := Lib.hid hsl
  have HG := Lib.hid HW
  have HDD := Lib.hid hD
  have HX := Lib.hid hX
  have HFE := Lib.hid hfe
  have HOZ := Lib.hid hoz
  have HLT := Lib.hid hlt
  have h3 : bits .and .u8 (f : Int) 3 = 0 := by rw [and3_u8 f hf, ht]; rfl
  subst h60
  have a1 : IntKind.i64.wrap ((k : Int) + 2) = (k : Int) + 2 := by rw [IntKind.wrap_i64]; omega
  have a2 : IntKind.u64.wrap ((k : Int) + 2) = (k : Int) + 2 := by rw [IntKind.wrap_u64]; omega
  have a3 : IntKind.u64.wrap (q.length : Int) = (q.length : Int) := by rw [IntKind.wrap_u64]; omega
  by_cases hsh : q.length < k + 1 + 1
  · have a4 : (q.length : Int) < (k : Int) + 2 := by omega
    have hbb := Lib.hid (hX.symm.trans (snGo_bad hlt hoL (by rw [hfe]; exact snElem_big_short (s := 1) ht hx (by omega) hsh)))
    clear hsl HW hD hX hfe hoz hlt ht hx hsh hJ
    go_wp2_with fail
    exact ⟨rfl, rfl, rfl, hb, hbb.out⟩
  · have a4 : (k : Int) + 2 ≤ (q.length : Int) := by omega
    obtain ⟨b0, e0⟩ : ∃ b, (q.getD (k + 1) 0).toNat = b := ⟨_, rfl⟩
    have i0 : (b0 : Int) < 256 := by have := UInt8.toNat_lt (q.getD (k + 1) 0); omega
    have c0 : wr.cell? ⟨gq, oq + (k + 1), none⟩ = some (.int .u8 (b0 : Int)) := by rw [← e0]; exact sl_cell hsl (by omega)
    have hN : Lib.leNat ((q.drop (k + 1)).take 1) = b0 := by rw [leNat_getD1 (by omega), e0]
    have HE : Hid (snElem q k o (q.getD k 0).toNat = snLit q (k + 1 + 1) (b0 + 1) o) := Lib.hid (by rw [hfe, snElem_big (s := 1) ht hx (by omega) (by omega), hN])
    have hNm : b0 < 4294967296 := by omega
    have HSH := Lib.hid hsh
    have HR2 := Lib.hid hret
    have HJ := Lib.hid hJ
    clear hsl HW hD hX hfe hoz hlt ht hx hsh hJ hret hN e0
    go_upto_region 28 with fail
    refine lit_tail q L g gq oq c D w R k (k + 1 + 1) b0 _ o z wr _ _ _ _ _ _ _ _ _ _ _ _ _ _ _ _ _ _ _ _ _ _ _ _ _ _ _ _ _ _ _ _ _ _ _ _ _ _ _ _ _ _ _ _ _ _ _ _ _ _ _ _ _ _ _ _ _ _ _ _ _ _ _ _ _ _ _ _ _ _ _ _ _ _ _ _ _ _ _ _ _ _ _ _ _ _ _ _ _ _ _ _ _ _ _ _ _ _ _ _ _ _ _ _ _ _ _ _ _ _ _ _ _ _ _ _ _ _ _ _ _ _ _ _ _ _ _ _ _ _ _ _ _ _ _ _ _ _ _ _ _ _ _ _ _ _ _ _ _ _ _ _ _ _ _ _ _ _ _ _ _ _ _ _ _ _ _ _ _ _ _ _ _ _ _ _ _ _ _ _ _ _ _ _ _ _ _ _ _ _ _ _ _ _ _ _ _ _ _ _ _ _ _ _ _ _ _ _ _ _ _ _ _ _ _ _ _ _ _ _ _ _ _ _ _ _ _ _ _ _ _ _ _ _ _ _ _ _ _ _ _ _ _ _ _ _ _ _ _ _ _ _ _ _ _ _ _ _ _ _ _ _ _ _ _ _ _ _ _ _ _ _ _ _ _ _ _ _ _ _ _ _ _ _ _ _ _ _ _ _ _ _ _ _ _ _ _ _ _ _ _ _ _ _ _ _ _ _ _ _ _ _ _ _ _ _ _ _ _ _ _ _ _ _ _ _ _ _ _ _ _ _ _ _ _ _ _ _ _ _ _ _ _ _ _ _ _ _ _ _ _ _ _ _ _ _ _ _ _ _ _ _ _ _ _ _ _ _ hn hm hcc hLm HS.out HOZ.out HDD.out HG.out hb (by omega) (by omega) (by omega) ?_ ?_ ?_ ?_ ?_ ?_
    · intro h; exact HX.out.symm.trans (snGo_lit_no HLT.out hoL HE.out h)
    · intro h; exact (snGo_lit_yes HLT.out hoL HE.out h).symm.trans HX.out
    · omega
    · exact fun F w' h => HJ.out F w' h
    · exact fun F w' h => HR2.out F w' h
    · assumption

set_option maxRecDepth 100000 in
set_option maxHeartbeats 6400000 in
theorem lit_big2 (q : List UInt8) (L g gq oq c : Nat) (D : Option Addr) (w : World) (R : Option (List UInt8) × Nat) (k f x : Nat) (o z : List UInt8) (wr : World) (Q : Exit → Act → World → Prop)
    (u2 u3 u4 u7 u8 u9 u10 u11 u12 u13 u14 u15 u16 u17 u18 u19 u20 u21 u22 u23 u24 u25 u26 u27 u28 u29 u30 u31 u32 u33 u34 u35 u36 u37 u38 u39 u40 u41 u42 u43 u44 u45 u46 u47 u48 u49 u50 u51 u52 u53 u54 u55 u56 u57 u58 u59 u60 u61 u62 u63 u64 u65 u66 u67 u68 u69 u70 u71 u72 u73 u74 u75 u76 u77 u78 u79 u80 u81 u82 u83 u84 u85 u86 u87 u88 u89 u90 u91 u92 u93 u94 u95 u96 u97 u98 u99 u100 u101 u102 u103 u104 u105 u106 u107 u108 u109 u110 u111 u112 u113 u114 u115 u116 u117 u118 u119 u120 u121 u122 u123 u124 u125 u126 u127 u128 u129 u130 u131 u132 u133 u134 u135 u136 u137 u138 u139 u140 u141 u142 u143 u144 u145 u146 u147 u148 u149 u150 u151 u152 u153 u154 u155 u156 u157 u158 u159 u160 u161 u162 u163 u164 u165 u166 u167 u168 u169 u170 u171 u172 u173 u174 u175 u176 u177 u178 u179 u180 u181 u182 u183 u184 u185 u186 u187 u188 u189 u190 u191 u192 u193 u194 u195 u196 u197 u198 u199 u200 u201 u202 u203 u204 u205 u206 u207 u208 u209 u210 u211 u212 u213 u214 u215 u216 u217 u218 u219 u220 u221 u222 u223 u224 u225 u226 u227 u228 u229 u230 u231 u232 u233 u234 u235 u236 u237 u238 u239 u240 u241 u242 u243 u244 u245 u246 u247 u248 u249 u250 u251 u252 u253 u254 u255 u256 u257 u258 u259 u260 u261 u262 u263 u264 u265 u266 u267 u268 u269 u270 u271 u272 u273 u274 u275 u276 u277 u278 u279 u280 u281 u282 u283 u284 u285 u286 u287 u288 u289 u290 u291 u292 u293 u294 u295 u296 u297 u298 u299 u300 u301 u302 u303 u304 u305 u306 u307 u308 u309 u310 u311 u312 u313 u314 u315 u316 u317 u318 u319 u320 u321 u322 u323 u324 u325 u326 u327 u328 u329 u330 u331 u332 u333 u334 u335 u336 u337 u338 u339 u340 u341 u342 u343 u344 u345 u346 u347 u348 u349 u350 u351 u352 u353 u354 u355 u356 u357 u358 u359 u360 u361 u362 u363 u364 u365 u366 u367 u368 u369 u370 : Value)
    (hn : q.length ≤ 2147483647) (hm : c ≤ 9223372036854775807) (hcc : q.length ≤ c) (hLm : L ≤ 200000) (hsl : Sl wr g (some ⟨gq, oq, none⟩) q.length c q)
    (hoz : o.length + z.length = L) (hD : 0 < L → D = some ⟨g, 0, none⟩) (HW : 0 < L → wr.heap[g]? = some (.cells (Lib.byteCells (o ++ z)).toArray 5 (0, 0))) (hb : Below g w wr) (hlt : k < q.length) (hX : snGo q L k o = R) (hfe : (q.getD k 0).toNat = f) (hf : f < 256) (hx : f / 4 = x)
    (hJ : ∀ F w', Nxt q L g D (some ⟨gq, oq, none⟩) c w R k F w' → Q .normal F w') (hret : ∀ F w', Bad g w R F w' → Q .ret F w')
    (ht : f % 4 = 0) (h60 : x = 61) : Code.wp Tryd.prog snBody Q ⟨#[.slice D L L, .slice (some ⟨gq, oq, none⟩) q.length c, u2, u3, u4, .int .i64 o.length, .int .i64 k, u7, u8, u9, u10, u11, u12, u13, u14, u15, u16, u17, u18, u19, u20, u21, u22, u23, u24, u25, u26, u27, u28, u29, u30, u31, u32, u33, u34, u35, u36, u37, u38, u39, u40, u41, u42, u43, u44, u45, u46, u47, u48, u49, u50, u51, u52, u53, u54, u55, u56, u57, u58, u59, u60, u61, u62, u63, u64, u65, u66, u67, u68, u69, u70, u71, u72, u73, u74, u75, u76, u77, u78, u79, u80, u81, u82, u83, u84, u85, u86, u87, u88, u89, u90, u91, u92, u93, u94, u95, u96, u97, u98, u99, u100, u101, u102, u103, u104, u105, u106, u107, u108, u109, u110, u111, u112, u113, u114, u115, u116, u117, u118, u119, u120, u121, u122, u123, u124, u125, u126, u127, u128, u129, u130, u131, u132, u133, u134, u135, u136, u137, u138, u139, u140, u141, u142, u143, u144, u145, u146, u147, u148, u149, u150, u151, u152, u153, u154, u155, u156, u157, u158, u159, u160, u161, u162, u163, u164, u165, u166, u167, u168, u169, u170, u171, u172, u173, u174, u175, u176, u177, u178, u179, u180, u181, u182, u183, u184, u185, u186, u187, u188, u189, u190, u191, u192, u193, u194, u195, u196, u197, u198, u199, u200, u201, u202, u203, u204, u205, u206, u207, u208, u209, u210, u211, u212, u213, u214, u215, u216, u217, u218, u219, u220, u221, u222, u223, u224, u225, u226, u227, u228, u229, u230, u231, u232, u233, u234, u235, u236, u237, u238, u239, u240, u241, u242, u243, u244, u245, u246, u247, u248, u249, u250, u251, u252, u253, u254, u255, u256, u257, u258, u259, u260, u261, u262, u263, u264, u265, u266, u267, u268, u269, u270, u271, u272, u273, u274, u275, u276, u277, u278, u279, u280, u281, u282, u283, u284, u285, u286, u287, u288, u289, u290, u291, u292, u293, u294, u295, u296, u297, u298, u299, u300, u301, u302, u303, u304, u305, u306, u307, u308, u309, u310, u311, u312, u313, u314, u315, u316, u317, u318, u319, u320, u321, u322, u323, u324, u325, u326, u327, u328, u329, u330, u331, u332, u333, u334, u335, u336, u337, u338, u339, u340, u341, u342, u343, u344, u345, u346, u347, u348, u349, u350, u351, u352, u353, u354, u355, u356, u357, u358, u359, u360, u361, u362, u363, u364, u365, u366, u367, u368, u369, u370], []⟩ wr := by
  conv => arg 2; whnf
  have hoL : o.length ≤ L := by omega
  have hcf : wr.cell? ⟨gq, oq + k, none⟩ = some (.int .u8 (f : Int)) := by rw [← hfe]; exact sl_cell hsl hlt
  have hki : (k : Int) < (q.length : Int) := by omega
  have hfx : (f : Int) / 4 = x := by omega
  have hfi : (f : Int) < 256 := by omega
  have HS := Lib.hid hsl
  have HG := Lib.hid HW
  have HDD := Lib.hid hD
  have HX := Lib.hid hX
  have HFE := Lib.hid hfe
  have HOZ := Lib.hid hoz
  have HLT := Lib.hid hlt
  have h3 : bits .and .u8 (f : Int) 3 = 0 := by rw [and3_u8 f hf, ht]; rfl
  subst h60
  have a1 : IntKind.i64.wrap ((k : Int) + 3) = (k : Int) + 3 := by rw [IntKind.wrap_i64]; omega
  have a2 : IntKind.u64.wrap ((k : Int) + 3) = (k : Int) + 3 := by rw [IntKind.wrap_u64]; omega
  have a3 : IntKind.u64.wrap (q.length : Int) = (q.length : Int) := by rw [IntKind.wrap_u64]; omega
  by_cases hsh : q.length < k + 1 + 2
  · have a4 : (q.length : Int) < (k : Int) + 3 := by omega
    have hbb := Lib.hid (hX.symm.trans (snGo_bad hlt hoL (by rw [hfe]; exact snElem_big_short (s := 2) ht hx (by omega) hsh)))
    clear hsl HW hD hX hfe hoz hlt ht hx hsh hJ
    go_wp2_with fail
    exact ⟨rfl, rfl, rfl, hb, hbb.out⟩
  · have a4 : (k : Int) + 3 ≤ (q.length : Int) := by omega
    obtain ⟨b0, e0⟩ : ∃ b, (q.getD (k + 1) 0).toNat = b := ⟨_, rfl⟩
    have i0 : (b0 : Int) < 256 := by have := UInt8.toNat_lt (q.getD (k + 1) 0); omega
    have c0 : wr.cell? ⟨gq, oq + (k + 1), none⟩ = some (.int .u8 (b0 : Int)) := by rw [← e0]; exact sl_cell hsl (by omega)
    obtain ⟨b1, e1⟩ : ∃ b, (q.getD (k + 2) 0).toNat = b := ⟨_, rfl⟩
    have i1 : (b1 : Int) < 256 := by have := UInt8.toNat_lt (q.getD (k + 2) 0); omega
    have c1 : wr.cell? ⟨gq, oq + (k + 2), none⟩ = some (.int .u8 (b1 : Int)) := by rw [← e1]; exact sl_cell hsl (by omega)
    obtain ⟨N1, n1⟩ : ∃ N, b0 + b1 * 256 = N := ⟨_, rfl⟩
    have m1 : N1 < 65536 := by omega
    have o1 : bits .or .u32 (b0 : Int) ((b1 : Int) * 256) = (N1 : Int) := (u32_or8 (y := (b0 : Int)) (x := (b1 : Int) * 256) (by omega) (by omega) (by omega) (by omega) (by omega)).trans (by omega)
    have hN : Lib.leNat ((q.drop (k + 1)).take 2) = N1 := by rw [leNat_getD2 (by omega), e0, e1, n1]
    have HE : Hid (snElem q k o (q.getD k 0).toNat = snLit q (k + 1 + 2) (N1 + 1) o) := Lib.hid (by rw [hfe, snElem_big (s := 2) ht hx (by omega) (by omega), hN])
    have hNm : N1 < 4294967296 := by omega
    have HSH := Lib.hid hsh
    have HR2 := Lib.hid hret
    have HJ := Lib.hid hJ
    clear hsl HW hD hX hfe hoz hlt ht hx hsh hJ hret hN e0 e1 n1 m1
    go_upto_region 28 with fail
    go_quiet (fail)
    go_upto_region 28 with fail
    refine lit_tail q L g gq oq c D w R k (k + 1 + 2) N1 _ o z _ _ _ _ _ _ _ _ _ _ _ _ _ _ _ _ _ _ _ _ _ _ _ _ _ _ _ _ _ _ _ _ _ _ _ _ _ _ _ _ _ _ _ _ _ _ _ _ _ _ _ _ _ _ _ _ _ _ _ _ _ _ _ _ _ _ _ _ _ _ _ _ _ _ _ _ _ _ _ _ _ _ _ _ _ _ _ _ _ _ _ _ _ _ _ _ _ _ _ _ _ _ _ _ _ _ _ _ _ _ _ _ _ _ _ _ _ _ _ _ _ _ _ _ _ _ _ _ _ _ _ _ _ _ _ _ _ _ _ _ _ _ _ _ _ _ _ _ _ _ _ _ _ _ _ _ _ _ _ _ _ _ _ _ _ _ _ _ _ _ _ _ _ _ _ _ _ _ _ _ _ _ _ _ _ _ _ _ _ _ _ _ _ _ _ _ _ _ _ _ _ _ _ _ _ _ _ _ _ _ _ _ _ _ _ _ _ _ _ _ _ _ _ _ _ _ _ _ _ _ _ _ _ _ _ _ _ _ _ _ _ _ _ _ _ _ _ _ _ _ _ _ _ _ _ _ _ _ _ _ _ _ _ _ _ _ _ _ _ _ _ _ _ _ _ _ _ _ _ _ _ _ _ _ _ _ _ _ _ _ _ _ _ _ _ _ _ _ _ _ _ _ _ _ _ _ _ _ _ _ _ _ _ _ _ _ _ _ _ _ _ _ _ _ _ _ _ _ _ _ _ _ _ _ _ _ _ _ _ _ _ _ _ _ _ _ _ _ _ _ _ _ _ _ _ _ _ _ _ _ _ _ _ _ _ _ _ _ _ hn hm hcc hLm (HS.out.drewN _) HOZ.out HDD.out HG.out (below_drewN hb _) (by omega) (by omega) (by omega) ?_ ?_ ?_ ?_ ?_ ?_
    · intro h; exact HX.out.symm.trans (snGo_lit_no HLT.out hoL HE.out h)
    · intro h; exact (snGo_lit_yes HLT.out hoL HE.out h).symm.trans HX.out
    · omega
    · exact fun F w' h => HJ.out F w' h
    · exact fun F w' h => HR2.out F w' h
    · assumption

set_option maxRecDepth 100000 in
set_option maxHeartbeats 6400000 in
theorem lit_big3 (q : List UInt8) (L g gq oq c : Nat) (D : Option Addr) (w : World) (R : Option (List UInt8) × Nat) (k f x : Nat) (o z : List UInt8) (wr : World) (Q : Exit → Act → World → Prop)
    (u2 u3 u4 u7 u8 u9 u10 u11 u12 u13 u14 u15 u16 u17 u18 u19 u20 u21 u22 u23 u24 u25 u26 u27 u28 u29 u30 u31 u32 u33 u34 u35 u36 u37 u38 u39 u40 u41 u42 u43 u44 u45 u46 u47 u48 u49 u50 u51 u52 u53 u54 u55 u56 u57 u58 u59 u60 u61 u62 u63 u64 u65 u66 u67 u68 u69 u70 u71 u72 u73 u74 u75 u76 u77 u78 u79 u80 u81 u82 u83 u84 u85 u86 u87 u88 u89 u90 u91 u92 u93 u94 u95 u96 u97 u98 u99 u100 u101 u102 u103 u104 u105 u106 u107 u108 u109 u110 u111 u112 u113 u114 u115 u116 u117 u118 u119 u120 u121 u122 u123 u124 u125 u126 u127 u128 u129 u130 u131 u132 u133 u134 u135 u136 u137 u138 u139 u140 u141 u142 u143 u144 u145 u146 u147 u148 u149 u150 u151 u152 u153 u154 u155 u156 u157 u158 u159 u160 u161 u162 u163 u164 u165 u166 u167 u168 u169 u170 u171 u172 u173 u174 u175 u176 u177 u178 u179 u180 u181 u182 u183 u184 u185 u186 u187 u188 u189 u190 u191 u192 u193 u194 u195 u196 u197 u198 u199 u200 u201 u202 u203 u204 u205 u206 u207 u208 u209 u210 u211 u212 u213 u214 u215 u216 u217 u218 u219 u220 u221 u222 u223 u224 u225 u226 u227 u228 u229 u230 u231 u232 u233 u234 u235 u236 u237 u238 u239 u240 u241 u242 u243 u244 u245 u246 u247 u248 u249 u250 u251 u252 u253 u254 u255 u256 u257 u258 u259 u260 u261 u262 u263 u264 u265 u266 u267 u268 u269 u270 u271 u272 u273 u274 u275 u276 u277 u278 u279 u280 u281 u282 u283 u284 u285 u286 u287 u288 u289 u290 u291 u292 u293 u294 u295 u296 u297 u298 u299 u300 u301 u302 u303 u304 u305 u306 u307 u308 u309 u310 u311 u312 u313 u314 u315 u316 u317 u318 u319 u320 u321 u322 u323 u324 u325 u326 u327 u328 u329 u330 u331 u332 u333 u334 u335 u336 u337 u338 u339 u340 u341 u342 u343 u344 u345 u346 u347 u348 u349 u350 u351 u352 u353 u354 u355 u356 u357 u358 u359 u360 u361 u362 u363 u364 u365 u366 u367 u368 u369 u370 : Value)
    (hn : q.length ≤ 2147483647) (hm : c ≤ 9223372036854775807) (hcc : q.length ≤ c) (hLm : L ≤ 200000) (hsl : Sl wr g (some ⟨gq, oq, none⟩) q.length c q)
    (hoz : o.length + z.length = L) (hD : 0 < L → D = some ⟨g, 0, none⟩) (HW : 0 < L → wr.heap[g]? = some (.cells (Lib.byteCells (o ++ z)).toArray 5 (0, 0))) (hb : Below g w wr) (hlt : k < q.length) (hX : snGo q L k o = R) (hfe : (q.getD k 0).toNat = f) (hf : f < 256) (hx : f / 4 = x)
    (hJ : ∀ F w', Nxt q L g D (some ⟨gq, oq, none⟩) c w R k F w' → Q .normal F w') (hret : ∀ F w', Bad g w R F w' → Q .ret F w')
    (ht : f % 4 = 0) (h60 : x = 62) : Code.wp Tryd.prog snBody Q ⟨#[.slice D L L, .slice (some ⟨gq, oq, none⟩) q.length c, u2, u3, u4, .int .i64 o.length, .int .i64 k, u7, u8, u9, u10, u11, u12, u13, u14, u15, u16, u17, u18, u19, u20, u21, u22, u23, u24, u25, u26, u27, u28, u29, u30, u31, u32, u33, u34, u35, u36, u37, u38, u39, u40, u41, u42, u43, u44, u45, u46, u47, u48, u49, u50, u51, u52, u53, u54, u55, u56, u57, u58, u59, u60, u61, u62, u63, u64, u65, u66, u67, u68, u69, u70, u71, u72, u73, u74, u75, u76, u77, u78, u79, u80, u81, u82, u83, u84, u85, u86, u87, u88, u89, u90, u91, u92, u93, u94, u95, u96, u97, u98, u99, u100, u101, u102, u103, u104, u105, u106, u107, u108, u109, u110, u111, u112, u113, u114, u115, u116, u117, u118, u119, u120, u121, u122, u123, u124, u125, u126, u127, u128, u129, u130, u131, u132, u133, u134, u135, u136, u137, u138, u139, u140, u141, u142, u143, u144, u145, u146, u147, u148, u149, u150, u151, u152, u153, u154, u155, u156, u157, u158, u159, u160, u161, u162, u163, u164, u165, u166, u167, u168, u169, u170, u171, u172, u173, u174, u175, u176, u177, u178, u179, u180, u181, u182, u183, u184, u185, u186, u187, u188, u189, u190, u191, u192, u193, u194, u195, u196, u197, u198, u199, u200, u201, u202, u203, u204, u205, u206, u207, u208, u209, u210, u211, u212, u213, u214, u215, u216, u217, u218, u219, u220, u221, u222, u223, u224, u225, u226, u227, u228, u229, u230, u231, u232, u233, u234, u235, u236, u237, u238, u239, u240, u241, u242, u243, u244, u245, u246, u247, u248, u249, u250, u251, u252, u253, u254, u255, u256, u257, u258, u259, u260, u261, u262, u263, u264, u265, u266, u267, u268, u269, u270, u271, u272, u273, u274, u275, u276, u277, u278, u279, u280, u281, u282, u283, u284, u285, u286, u287, u288, u289, u290, u291, u292, u293, u294, u295, u296, u297, u298, u299, u300, u301, u302, u303, u304, u305, u306, u307, u308, u309, u310, u311, u312, u313, u314, u315, u316, u317, u318, u319, u320, u321, u322, u323, u324, u325, u326, u327, u328, u329, u330, u331, u332, u333, u334, u335, u336, u337, u338, u339, u340, u341, u342, u343, u344, u345, u346, u347, u348, u349, u350, u351, u352, u353, u354, u355, u356, u357, u358, u359, u360, u361, u362, u363, u364, u365, u366, u367, u368, u369, u370], []⟩ wr := by
  conv => arg 2; whnf
  have hoL : o.length ≤ L := by omega
  have hcf : wr.cell? ⟨gq, oq + k, none⟩ = some (.int .u8 (f : Int)) := by rw [← hfe]; exact sl_cell hsl hlt
  have hki : (k : Int) < (q.length : Int) := by omega
  have hfx : (f : Int) / 4 = x := by omega
  have hfi : (f : Int) < 256 := by omega
  have HS := Lib.hid hsl
  have HG := Lib.hid HW
  have HDD := Lib.hid hD
  have HX := Lib.hid hX
  have HFE := Lib.hid hfe
  have HOZ := Lib.hid hoz
  have HLT := Lib.hid hlt
  have h3 : bits .and .u8 (f : Int) 3 = 0 := by rw [and3_u8 f hf, ht]; rfl
  subst h60
  have a1 : IntKind.i64.wrap ((k : Int) + 4) = (k : Int) + 4 := by rw [IntKind.wrap_i64]; omega
  have a2 : IntKind.u64.wrap ((k : Int) + 4) = (k : Int) + 4 := by rw [IntKind.wrap_u64]; omega
  have a3 : IntKind.u64.wrap (q.length : Int) = (q.length : Int) := by rw [IntKind.wrap_u64]; omega
  by_cases hsh : q.length < k + 1 + 3
  · have a4 : (q.length : Int) < (k : Int) + 4 := by omega
    have hbb := Lib.hid (hX.symm.trans (snGo_bad hlt hoL (by rw [hfe]; exact snElem_big_short (s := 3) ht hx (by omega) hsh)))
    clear hsl HW hD hX hfe hoz hlt ht hx hsh hJ
    go_wp2_with fail
    exact ⟨rfl, rfl, rfl, hb, hbb.out⟩
  · have a4 : (k : Int) + 4 ≤ (q.length : Int) := by omega
    obtain ⟨b0, e0⟩ : ∃ b, (q.getD (k + 1) 0).toNat = b := ⟨_, rfl⟩
    have i0 : (b0 : Int) < 256 := by have := UInt8.toNat_lt (q.getD (k + 1) 0); omega
    have c0 : wr.cell? ⟨gq, oq + (k + 1), none⟩ = some (.int .u8 (b0 : Int)) := by rw [← e0]; exact sl_cell hsl (by omega)
    obtain ⟨b1, e1⟩ : ∃ b, (q.getD (k + 2) 0).toNat = b := ⟨_, rfl⟩
    have i1 : (b1 : Int) < 256 := by have := UInt8.toNat_lt (q.getD (k + 2) 0); omega
    have c1 : wr.cell? ⟨gq, oq + (k + 2), none⟩ = some (.int .u8 (b1 : Int)) := by rw [← e1]; exact sl_cell hsl (by omega)
    obtain ⟨b2, e2⟩ : ∃ b, (q.getD (k + 3) 0).toNat = b := ⟨_, rfl⟩
    have i2 : (b2 : Int) < 256 := by have := UInt8.toNat_lt (q.getD (k + 3) 0); omega
    have c2 : wr.cell? ⟨gq, oq + (k + 3), none⟩ = some (.int .u8 (b2 : Int)) := by rw [← e2]; exact sl_cell hsl (by omega)
    obtain ⟨N1, n1⟩ : ∃ N, b0 + b1 * 256 = N := ⟨_, rfl⟩
    have m1 : N1 < 65536 := by omega
    have o1 : bits .or .u32 (b0 : Int) ((b1 : Int) * 256) = (N1 : Int) := (u32_or8 (y := (b0 : Int)) (x := (b1 : Int) * 256) (by omega) (by omega) (by omega) (by omega) (by omega)).trans (by omega)
    obtain ⟨N2, n2⟩ : ∃ N, N1 + b2 * 65536 = N := ⟨_, rfl⟩
    have m2 : N2 < 16777216 := by omega
    have o2 : bits .or .u32 (N1 : Int) ((b2 : Int) * 65536) = (N2 : Int) := (u32_or16 (y := (N1 : Int)) (x := (b2 : Int) * 65536) (by omega) (by omega) (by omega) (by omega) (by omega)).trans (by omega)
    have hN : Lib.leNat ((q.drop (k + 1)).take 3) = N2 := by rw [leNat_getD3 (by omega), e0, e1, e2, n1, n2]
    have HE : Hid (snElem q k o (q.getD k 0).toNat = snLit q (k + 1 + 3) (N2 + 1) o) := Lib.hid (by rw [hfe, snElem_big (s := 3) ht hx (by omega) (by omega), hN])
    have hNm : N2 < 4294967296 := by omega
    have HSH := Lib.hid hsh
    have HR2 := Lib.hid hret
    have HJ := Lib.hid hJ
    clear hsl HW hD hX hfe hoz hlt ht hx hsh hJ hret hN e0 e1 e2 n1 m1 n2 m2
    go_upto_region 28 with fail
    go_quiet (fail)
    go_upto_region 28 with fail
    refine lit_tail q L g gq oq c D w R k (k + 1 + 3) N2 _ o z _ _ _ _ _ _ _ _ _ _ _ _ _ _ _ _ _ _ _ _ _ _ _ _ _ _ _ _ _ _ _ _ _ _ _ _ _ _ _ _ _ _ _ _ _ _ _ _ _ _ _ _ _ _ _ _ _ _ _ _ _ _ _ _ _ _ _ _ _ _ _ _ _ _ _ _ _ _ _ _ _ _ _ _ _ _ _ _ _ _ _ _ _ _ _ _ _ _ _ _ _ _ _ _ _ _ _ _ _ _ _ _ _ _ _ _ _ _ _ _ _ _ _ _ _ _ _ _ _ _ _ _ _ _ _ _ _ _ _ _ _ _ _ _ _ _ _ _ _ _ _ _ _ _ _ _ _ _ _ _ _ _ _ _ _ _ _ _ _ _ _ _ _ _ _ _ _ _ _ _ _ _ _ _ _ _ _ _ _ _ _ _ _ _ _ _ _ _ _ _ _ _ _ _ _ _ _ _ _ _ _ _ _ _ _ _ _ _ _ _ _ _ _ _ _ _ _ _ _ _ _ _ _ _ _ _ _ _ _ _ _ _ _ _ _ _ _ _ _ _ _ _ _ _ _ _ _ _ _ _ _ _ _ _ _ _ _ _ _ _ _ _ _ _ _ _ _ _ _ _ _ _ _ _ _ _ _ _ _ _ _ _ _ _ _ _ _ _ _ _ _ _ _ _ _ _ _ _ _ _ _ _ _ _ _ _ _ _ _ _ _ _ _ _ _ _ _ _ _ _ _ _ _ _ _ _ _ _ _ _ _ _ _ _ _ _ _ _ _ _ _ _ _ _ _ _ _ _ _ _ _ _ _ _ _ _ _ _ _ hn hm hcc hLm (HS.out.drewN _) HOZ.out HDD.out HG.out (below_drewN hb _) (by omega) (by omega) (by omega) ?_ ?_ ?_ ?_ ?_ ?_
    · intro h; exact HX.out.symm.trans (snGo_lit_no HLT.out hoL HE.out h)
    · intro h; exact (snGo_lit_yes HLT.out hoL HE.out h).symm.trans HX.out
    · omega
    · exact fun F w' h => HJ.out F w' h
    · exact fun F w' h => HR2.out F w' h
    · assumption

set_option maxRecDepth 100000 in
set_option maxHeartbeats 6400000 in
theorem lit_big4 (q : List UInt8) (L g gq oq c : Nat) (D : Option Addr) (w : World) (R : Option (List UInt8) × Nat) (k f x : Nat) (o z : List UInt8) (wr : World) (Q : Exit → Act → World → Prop)
    (u2 u3 u4 u7 u8 u9 u10 u11 u12 u13 u14 u15 u16 u17 u18 u19 u20 u21 u22 u23 u24 u25 u26 u27 u28 u29 u30 u31 u32 u33 u34 u35 u36 u37 u38 u39 u40 u41 u42 u43 u44 u45 u46 u47 u48 u49 u50 u51 u52 u53 u54 u55 u56 u57 u58 u59 u60 u61 u62 u63 u64 u65 u66 u67 u68 u69 u70 u71 u72 u73 u74 u75 u76 u77 u78 u79 u80 u81 u82 u83 u84 u85 u86 u87 u88 u89 u90 u91 u92 u93 u94 u95 u96 u97 u98 u99 u100 u101 u102 u103 u104 u105 u106 u107 u108 u109 u110 u111 u112 u113 u114 u115 u116 u117 u118 u119 u120 u121 u122 u123 u124 u125 u126 u127 u128 u129 u130 u131 u132 u133 u134 u135 u136 u137 u138 u139 u140 u141 u142 u143 u144 u145 u146 u147 u148 u149 u150 u151 u152 u153 u154 u155 u156 u157 u158 u159 u160 u161 u162 u163 u164 u165 u166 u167 u168 u169 u170 u171 u172 u173 u174 u175 u176 u177 u178 u179 u180 u181 u182 u183 u184 u185 u186 u187 u188 u189 u190 u191 u192 u193 u194 u195 u196 u197 u198 u199 u200 u201 u202 u203 u204 u205 u206 u207 u208 u209 u210 u211 u212 u213 u214 u215 u216 u217 u218 u219 u220 u221 u222 u223 u224 u225 u226 u227 u228 u229 u230 u231 u232 u233 u234 u235 u236 u237 u238 u239 u240 u241 u242 u243 u244 u245 u246 u247 u248 u249 u250 u251 u252 u253 u254 u255 u256 u257 u258 u259 u260 u261 u262 u263 u264 u265 u266 u267 u268 u269 u270 u271 u272 u273 u274 u275 u276 u277 u278 u279 u280 u281 u282 u283 u284 u285 u286 u287 u288 u289 u290 u291 u292 u293 u294 u295 u296 u297 u298 u299 u300 u301 u302 u303 u304 u305 u306 u307 u308 u309 u310 u311 u312 u313 u314 u315 u316 u317 u318 u319 u320 u321 u322 u323 u324 u325 u326 u327 u328 u329 u330 u331 u332 u333 u334 u335 u336 u337 u338 u339 u340 u341 u342 u343 u344 u345 u346 u347 u348 u349 u350 u351 u352 u353 u354 u355 u356 u357 u358 u359 u360 u361 u362 u363 u364 u365 u366 u367 u368 u369 u370 : Value)
    (hn : q.length ≤ 2147483647) (hm : c ≤ 9223372036854775807) (hcc : q.length ≤ c) (hLm : L ≤ 200000) (hsl : Sl wr g (some ⟨gq, oq, none⟩) q.length c q)
    (hoz : o.length + z.length = L) (hD : 0 < L → D = some ⟨g, 0, none⟩) (HW : 0 < L → wr.heap[g]? = some (.cells (Lib.byteCells (o ++ z)).toArray 5 (0, 0))) (hb : Below g w wr) (hlt : k < q.length) (hX : snGo q L k o = R) (hfe : (q.getD k 0).toNat = f) (hf : f < 256) (hx : f / 4 = x)
    (hJ : ∀ F w', Nxt q L g D (some ⟨gq, oq, none⟩) c w R k F w' → Q .normal F w') (hret : ∀ F w', Bad g w R F w' → Q .ret F w')
    (ht : f % 4 = 0) (h60 : x = 63) : Code.wp Tryd.prog snBody Q ⟨#[.slice D L L, .slice (some ⟨gq, oq, none⟩) q.length c, u2, u3, u4, .int .i64 o.length, .int .i64 k, u7, u8, u9, u10, u11, u12, u13, u14, u15, u16, u17, u18, u19, u20, u21, u22, u23, u24, u25, u26, u27, u28, u29, u30, u31, u32, u33, u34, u35, u36, u37, u38, u39, u40, u41, u42, u43, u44, u45, u46, u47, u48, u49, u50, u51, u52, u53, u54, u55, u56, u57, u58, u59, u60, u61, u62, u63, u64, u65, u66, u67, u68, u69, u70, u71, u72, u73, u74, u75, u76, u77, u78, u79, u80, u81, u82, u83, u84, u85, u86, u87, u88, u89, u90, u91, u92, u93, u94, u95, u96, u97, u98, u99, u100, u101, u102, u103, u104, u105, u106, u107, u108, u109, u110, u111, u112, u113, u114, u115, u116, u117, u118, u119, u120, u121, u122, u123, u124, u125, u126, u127, u128, u129, u130, u131, u132, u133, u134, u135, u136, u137, u138, u139, u140, u141, u142, u143, u144, u145, u146, u147, u148, u149, u150, u151, u152, u153, u154, u155, u156, u157, u158, u159, u160, u161, u162, u163, u164, u165, u166, u167, u168, u169, u170, u171, u172, u173, u174, u175, u176, u177, u178, u179, u180, u181, u182, u183, u184, u185, u186, u187, u188, u189, u190, u191, u192, u193, u194, u195, u196, u197, u198, u199, u200, u201, u202, u203, u204, u205, u206, u207, u208, u209, u210, u211, u212, u213, u214, u215, u216, u217, u218, u219, u220, u221, u222, u223, u224, u225, u226, u227, u228, u229, u230, u231, u232, u233, u234, u235, u236, u237, u238, u239, u240, u241, u242, u243, u244, u245, u246, u247, u248, u249, u250, u251, u252, u253, u254, u255, u256, u257, u258, u259, u260, u261, u262, u263, u264, u265, u266, u267, u268, u269, u270, u271, u272, u273, u274, u275, u276, u277, u278, u279, u280, u281, u282, u283, u284, u285, u286, u287, u288, u289, u290, u291, u292, u293, u294, u295, u296, u297, u298, u299, u300, u301, u302, u303, u304, u305, u306, u307, u308, u309, u310, u311, u312, u313, u314, u315, u316, u317, u318, u319, u320, u321, u322, u323, u324, u325, u326, u327, u328, u329, u330, u331, u332, u333, u334, u335, u336, u337, u338, u339, u340, u341, u342, u343, u344, u345, u346, u347, u348, u349, u350, u351, u352, u353, u354, u355, u356, u357, u358, u359, u360, u361, u362, u363, u364, u365, u366, u367, u368, u369, u370], []⟩ wr := by
  conv => arg 2; whnf
  have hoL : o.length ≤ L := by omega
  have hcf : wr.cell? ⟨gq, oq + k, none⟩ = some (.int .u8 (f : Int)) := by rw [← hfe]; exact sl_cell hsl hlt
  have hki : (k : Int) < (q.length : Int) := by omega
  have hfx : (f : Int) / 4 = x := by omega
  have hfi : (f : Int) < 256 := by omega
  have HS := Lib.hid hsl
  have HG := Lib.hid HW
  have HDD := Lib.hid hD
  have HX := Lib.hid hX
  have HFE := Lib.hid hfe
  have HOZ := Lib.hid hoz
  have HLT := Lib.hid hlt
  have h3 : bits .and .u8 (f : Int) 3 = 0 := by rw [and3_u8 f hf, ht]; rfl
  subst h60
  have a1 : IntKind.i64.wrap ((k : Int) + 5) = (k : Int) + 5 := by rw [IntKind.wrap_i64]; omega
  have a2 : IntKind.u64.wrap ((k : Int) + 5) = (k : Int) + 5 := by rw [IntKind.wrap_u64]; omega
  have a3 : IntKind.u64.wrap (q.length : Int) = (q.length : Int) := by rw [IntKind.wrap_u64]; omega
  by_cases hsh : q.length < k + 1 + 4
  · have a4 : (q.length : Int) < (k : Int) + 5 := by omega
    have hbb := Lib.hid (hX.symm.trans (snGo_bad hlt hoL (by rw [hfe]; exact snElem_big_short (s := 4) ht hx (by omega) hsh)))
    clear hsl HW hD hX hfe hoz hlt ht hx hsh hJ
    go_wp2_with fail
    exact ⟨rfl, rfl, rfl, hb, hbb.out⟩
  · have a4 : (k : Int) + 5 ≤ (q.length : Int) := by omega
    obtain ⟨b0, e0⟩ : ∃ b, (q.getD (k + 1) 0).toNat = b := ⟨_, rfl⟩
    have i0 : (b0 : Int) < 256 := by have := UInt8.toNat_lt (q.getD (k + 1) 0); omega
    have c0 : wr.cell? ⟨gq, oq + (k + 1), none⟩ = some (.int .u8 (b0 : Int)) := by rw [← e0]; exact sl_cell hsl (by omega)
    obtain ⟨b1, e1⟩ : ∃ b, (q.getD (k + 2) 0).toNat = b := ⟨_, rfl⟩
    have i1 : (b1 : Int) < 256 := by have := UInt8.toNat_lt (q.getD (k + 2) 0); omega
    have c1 : wr.cell? ⟨gq, oq + (k + 2), none⟩ = some (.int .u8 (b1 : Int)) := by rw [← e1]; exact sl_cell hsl (by omega)
    obtain ⟨b2, e2⟩ : ∃ b, (q.getD (k + 3) 0).toNat = b := ⟨_, rfl⟩
    have i2 : (b2 : Int) < 256 := by have := UInt8.toNat_lt (q.getD (k + 3) 0); omega
    have c2 : wr.cell? ⟨gq, oq + (k + 3), none⟩ = some (.int .u8 (b2 : Int)) := by rw [← e2]; exact sl_cell hsl (by omega)
    obtain ⟨b3, e3⟩ : ∃ b, (q.getD (k + 4) 0).toNat = b := ⟨_, rfl⟩
    have i3 : (b3 : Int) < 256 := by have := UInt8.toNat_lt (q.getD (k + 4) 0); omega
    have c3 : wr.cell? ⟨gq, oq + (k + 4), none⟩ = some (.int .u8 (b3 : Int)) := by rw [← e3]; exact sl_cell hsl (by omega)
    obtain ⟨N1, n1⟩ : ∃ N, b0 + b1 * 256 = N := ⟨_, rfl⟩
    have m1 : N1 < 65536 := by omega
    have o1 : bits .or .u32 (b0 : Int) ((b1 : Int) * 256) = (N1 : Int) := (u32_or8 (y := (b0 : Int)) (x := (b1 : Int) * 256) (by omega) (by omega) (by omega) (by omega) (by omega)).trans (by omega)
    obtain ⟨N2, n2⟩ : ∃ N, N1 + b2 * 65536 = N := ⟨_, rfl⟩
    have m2 : N2 < 16777216 := by omega
    have o2 : bits .or .u32 (N1 : Int) ((b2 : Int) * 65536) = (N2 : Int) := (u32_or16 (y := (N1 : Int)) (x := (b2 : Int) * 65536) (by omega) (by omega) (by omega) (by omega) (by omega)).trans (by omega)
    obtain ⟨N3, n3⟩ : ∃ N, N2 + b3 * 16777216 = N := ⟨_, rfl⟩
    have m3 : N3 < 4294967296 := by omega
    have o3 : bits .or .u32 (N2 : Int) ((b3 : Int) * 16777216) = (N3 : Int) := (u32_or24 (y := (N2 : Int)) (x := (b3 : Int) * 16777216) (by omega) (by omega) (by omega) (by omega) (by omega)).trans (by omega)
    have hN : Lib.leNat ((q.drop (k + 1)).take 4) = N3 := by rw [leNat_getD4 (by omega), e0, e1, e2, e3, n1, n2, n3]
    have HE : Hid (snElem q k o (q.getD k 0).toNat = snLit q (k + 1 + 4) (N3 + 1) o) := Lib.hid (by rw [hfe, snElem_big (s := 4) ht hx (by omega) (by omega), hN])
    have hNm : N3 < 4294967296 := by omega
    have HSH := Lib.hid hsh
    have HR2 := Lib.hid hret
    have HJ := Lib.hid hJ
    clear hsl HW hD hX hfe hoz hlt ht hx hsh hJ hret hN e0 e1 e2 e3 n1 m1 n2 m2 n3 m3
    go_upto_region 28 with fail
    go_quiet (fail)
    go_upto_region 28 with fail
    refine lit_tail q L g gq oq c D w R k (k + 1 + 4) N3 _ o z _ _ _ _ _ _ _ _ _ _ _ _ _ _ _ _ _ _ _ _ _ _ _ _ _ _ _ _ _ _ _ _ _ _ _ _ _ _ _ _ _ _ _ _ _ _ _ _ _ _ _ _ _ _ _ _ _ _ _ _ _ _ _ _ _ _ _ _ _ _ _ _ _ _ _ _ _ _ _ _ _ _ _ _ _ _ _ _ _ _ _ _ _ _ _ _ _ _ _ _ _ _ _ _ _ _ _ _ _ _ _ _ _ _ _ _ _ _ _ _ _ _ _ _ _ _ _ _ _ _ _ _ _ _ _ _ _ _ _ _ _ _ _ _ _ _ _ _ _ _ _ _ _ _ _ _ _ _ _ _ _ _ _ _ _ _ _ _ _ _ _ _ _ _ _ _ _ _ _ _ _ _ _ _ _ _ _ _ _ _ _ _ _ _ _ _ _ _ _ _ _ _ _ _ _ _ _ _ _ _ _ _ _ _ _ _ _ _ _ _ _ _ _ _ _ _ _ _ _ _ _ _ _ _ _ _ _ _ _ _ _ _ _ _ _ _ _ _ _ _ _ _ _ _ _ _ _ _ _ _ _ _ _ _ _ _ _ _ _ _ _ _ _ _ _ _ _ _ _ _ _ _ _ _ _ _ _ _ _ _ _ _ _ _ _ _ _ _ _ _ _ _ _ _ _ _ _ _ _ _ _ _ _ _ _ _ _ _ _ _ _ _ _ _ _ _ _ _ _ _ _ _ _ _ _ _ _ _ _ _ _ _ _ _ _ _ _ _ _ _ _ _ _ _ _ _ _ _ _ _ _ _ _ _ _ _ _ _ _ hn hm hcc hLm (HS.out.drewN _) HOZ.out HDD.out HG.out (below_drewN hb _) (by omega) (by omega) (by omega) ?_ ?_ ?_ ?_ ?_ ?_
    · intro h; exact HX.out.symm.trans (snGo_lit_no HLT.out hoL HE.out h)
    · intro h; exact (snGo_lit_yes HLT.out hoL HE.out h).symm.trans HX.out
    · omega
    · exact fun F w' h => HJ.out F w' h
    · exact fun F w' h => HR2.out F w' h
    · assumption
end Go.Proofs.YthiklljhhnedkaaDoor
