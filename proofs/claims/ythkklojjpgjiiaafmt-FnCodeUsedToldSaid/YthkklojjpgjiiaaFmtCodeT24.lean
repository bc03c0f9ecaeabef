/-
  huff0's buildCTable: the codes. Conditions: those of the theorem.
-/
import Derived.Test.YthkklojjpgjiiaaFmtCodeT22
import Derived.Test.YthkklojjpgjiiaaFmtCodeT23
namespace Go.Proofs.YthkklojjpgjiiaaFmt
open Go.RowKit

noncomputable def bcC5 : Code := cuR (cuR (cuR (cuR (cuR (cuR (cuR (cuR (cuR (cuR (cuR (cuR (cuR (cuR (cuR (cuR (cuR (cuR (cuR (cuR (cuR (cuR (cuR (cuR (cuR (cuR (cuR (cuR (cuR ((Tryf.f19.body).getD .skip)))))))))))))))))))))))))))))
noncomputable def bcC4 : Code := cuR (cuR (cuR (cuR (cuR (cuR (cuR (cuR (cuR (cuR (cuR (cuR (cuR (cuR (cuR (cuR (cuR (cuR (cuR (cuR (cuR (cuR (cuR (cuR ((Tryf.f19.body).getD .skip))))))))))))))))))))))))
noncomputable def bcC3 : Code := cuR (cuR (cuR (cuR (cuR (cuR (cuR (cuR (cuR (cuR (cuR (cuR (cuR (cuR (cuR (cuR (cuR (cuR (cuR (cuR (cuR ((Tryf.f19.body).getD .skip)))))))))))))))))))))
noncomputable def bcC2 : Code := cuR (cuR (cuR (cuR ((Tryf.f19.body).getD .skip))))
def BcR  (F : Act) : Prop := F.defers = [] ∧ F.tmps.size = 358 ∧ F.tmps.getD 2 undef = .nilIface
set_option maxRecDepth 100000 in
theorem bc_ret {F : Act}  (hfr : BcR F) : F = ⟨#[F.tmps.getD 0 undef, F.tmps.getD 1 undef, .nilIface, F.tmps.getD 3 undef, F.tmps.getD 4 undef, F.tmps.getD 5 undef, F.tmps.getD 6 undef, F.tmps.getD 7 undef, F.tmps.getD 8 undef, F.tmps.getD 9 undef, F.tmps.getD 10 undef, F.tmps.getD 11 undef, F.tmps.getD 12 undef, F.tmps.getD 13 undef, F.tmps.getD 14 undef, F.tmps.getD 15 undef, F.tmps.getD 16 undef, F.tmps.getD 17 undef, F.tmps.getD 18 undef, F.tmps.getD 19 undef, F.tmps.getD 20 undef, F.tmps.getD 21 undef, F.tmps.getD 22 undef, F.tmps.getD 23 undef, F.tmps.getD 24 undef, F.tmps.getD 25 undef, F.tmps.getD 26 undef, F.tmps.getD 27 undef, F.tmps.getD 28 undef, F.tmps.getD 29 undef, F.tmps.getD 30 undef, F.tmps.getD 31 undef, F.tmps.getD 32 undef, F.tmps.getD 33 undef, F.tmps.getD 34 undef, F.tmps.getD 35 undef, F.tmps.getD 36 undef, F.tmps.getD 37 undef, F.tmps.getD 38 undef, F.tmps.getD 39 undef, F.tmps.getD 40 undef, F.tmps.getD 41 undef, F.tmps.getD 42 undef, F.tmps.getD 43 undef, F.tmps.getD 44 undef, F.tmps.getD 45 undef, F.tmps.getD 46 undef, F.tmps.getD 47 undef, F.tmps.getD 48 undef, F.tmps.getD 49 undef, F.tmps.getD 50 undef, F.tmps.getD 51 undef, F.tmps.getD 52 undef, F.tmps.getD 53 undef, F.tmps.getD 54 undef, F.tmps.getD 55 undef, F.tmps.getD 56 undef, F.tmps.getD 57 undef, F.tmps.getD 58 undef, F.tmps.getD 59 undef, F.tmps.getD 60 undef, F.tmps.getD 61 undef, F.tmps.getD 62 undef, F.tmps.getD 63 undef, F.tmps.getD 64 undef, F.tmps.getD 65 undef, F.tmps.getD 66 undef, F.tmps.getD 67 undef, F.tmps.getD 68 undef, F.tmps.getD 69 undef, F.tmps.getD 70 undef, F.tmps.getD 71 undef, F.tmps.getD 72 undef, F.tmps.getD 73 undef, F.tmps.getD 74 undef, F.tmps.getD 75 undef, F.tmps.getD 76 undef, F.tmps.getD 77 undef, F.tmps.getD 78 undef, F.tmps.getD 79 undef, F.tmps.getD 80 undef, F.tmps.getD 81 undef, F.tmps.getD 82 undef, F.tmps.getD 83 undef, F.tmps.getD 84 undef, F.tmps.getD 85 undef, F.tmps.getD 86 undef, F.tmps.getD 87 undef, F.tmps.getD 88 undef, F.tmps.getD 89 undef, F.tmps.getD 90 undef, F.tmps.getD 91 undef, F.tmps.getD 92 undef, F.tmps.getD 93 undef, F.tmps.getD 94 undef, F.tmps.getD 95 undef, F.tmps.getD 96 undef, F.tmps.getD 97 undef, F.tmps.getD 98 undef, F.tmps.getD 99 undef, F.tmps.getD 100 undef, F.tmps.getD 101 undef, F.tmps.getD 102 undef, F.tmps.getD 103 undef, F.tmps.getD 104 undef, F.tmps.getD 105 undef, F.tmps.getD 106 undef, F.tmps.getD 107 undef, F.tmps.getD 108 undef, F.tmps.getD 109 undef, F.tmps.getD 110 undef, F.tmps.getD 111 undef, F.tmps.getD 112 undef, F.tmps.getD 113 undef, F.tmps.getD 114 undef, F.tmps.getD 115 undef, F.tmps.getD 116 undef, F.tmps.getD 117 undef, F.tmps.getD 118 undef, F.tmps.getD 119 undef, F.tmps.getD 120 undef, F.tmps.getD 121 undef, F.tmps.getD 122 undef, F.tmps.getD 123 undef, F.tmps.getD 124 undef, F.tmps.getD 125 undef, F.tmps.getD 126 undef, F.tmps.getD 127 undef, F.tmps.getD 128 undef, F.tmps.getD 129 undef, F.tmps.getD 130 undef, F.tmps.getD 131 undef, F.tmps.getD 132 undef, F.tmps.getD 133 undef, F.tmps.getD 134 undef, F.tmps.getD 135 undef, F.tmps.getD 136 undef, F.tmps.getD 137 undef, F.tmps.getD 138 undef, F.tmps.getD 139 undef, F.tmps.getD 140 undef, F.tmps.getD 141 undef, F.tmps.getD 142 undef, F.tmps.getD 143 undef, F.tmps.getD 144 undef, F.tmps.getD 145 undef, F.tmps.getD 146 undef, F.tmps.getD 147 undef, F.tmps.getD 148 undef, F.tmps.getD 149 undef, F.tmps.getD 150 undef, F.tmps.getD 151 undef, F.tmps.getD 152 undef, F.tmps.getD 153 undef, F.tmps.getD 154 undef, F.tmps.getD 155 undef, F.tmps.getD 156 undef, F.tmps.getD 157 undef, F.tmps.getD 158 undef, F.tmps.getD 159 undef, F.tmps.getD 160 undef, F.tmps.getD 161 undef, F.tmps.getD 162 undef, F.tmps.getD 163 undef, F.tmps.getD 164 undef, F.tmps.getD 165 undef, F.tmps.getD 166 undef, F.tmps.getD 167 undef, F.tmps.getD 168 undef, F.tmps.getD 169 undef, F.tmps.getD 170 undef, F.tmps.getD 171 undef, F.tmps.getD 172 undef, F.tmps.getD 173 undef, F.tmps.getD 174 undef, F.tmps.getD 175 undef, F.tmps.getD 176 undef, F.tmps.getD 177 undef, F.tmps.getD 178 undef, F.tmps.getD 179 undef, F.tmps.getD 180 undef, F.tmps.getD 181 undef, F.tmps.getD 182 undef, F.tmps.getD 183 undef, F.tmps.getD 184 undef, F.tmps.getD 185 undef, F.tmps.getD 186 undef, F.tmps.getD 187 undef, F.tmps.getD 188 undef, F.tmps.getD 189 undef, F.tmps.getD 190 undef, F.tmps.getD 191 undef, F.tmps.getD 192 undef, F.tmps.getD 193 undef, F.tmps.getD 194 undef, F.tmps.getD 195 undef, F.tmps.getD 196 undef, F.tmps.getD 197 undef, F.tmps.getD 198 undef, F.tmps.getD 199 undef, F.tmps.getD 200 undef, F.tmps.getD 201 undef, F.tmps.getD 202 undef, F.tmps.getD 203 undef, F.tmps.getD 204 undef, F.tmps.getD 205 undef, F.tmps.getD 206 undef, F.tmps.getD 207 undef, F.tmps.getD 208 undef, F.tmps.getD 209 undef, F.tmps.getD 210 undef, F.tmps.getD 211 undef, F.tmps.getD 212 undef, F.tmps.getD 213 undef, F.tmps.getD 214 undef, F.tmps.getD 215 undef, F.tmps.getD 216 undef, F.tmps.getD 217 undef, F.tmps.getD 218 undef, F.tmps.getD 219 undef, F.tmps.getD 220 undef, F.tmps.getD 221 undef, F.tmps.getD 222 undef, F.tmps.getD 223 undef, F.tmps.getD 224 undef, F.tmps.getD 225 undef, F.tmps.getD 226 undef, F.tmps.getD 227 undef, F.tmps.getD 228 undef, F.tmps.getD 229 undef, F.tmps.getD 230 undef, F.tmps.getD 231 undef, F.tmps.getD 232 undef, F.tmps.getD 233 undef, F.tmps.getD 234 undef, F.tmps.getD 235 undef, F.tmps.getD 236 undef, F.tmps.getD 237 undef, F.tmps.getD 238 undef, F.tmps.getD 239 undef, F.tmps.getD 240 undef, F.tmps.getD 241 undef, F.tmps.getD 242 undef, F.tmps.getD 243 undef, F.tmps.getD 244 undef, F.tmps.getD 245 undef, F.tmps.getD 246 undef, F.tmps.getD 247 undef, F.tmps.getD 248 undef, F.tmps.getD 249 undef, F.tmps.getD 250 undef, F.tmps.getD 251 undef, F.tmps.getD 252 undef, F.tmps.getD 253 undef, F.tmps.getD 254 undef, F.tmps.getD 255 undef, F.tmps.getD 256 undef, F.tmps.getD 257 undef, F.tmps.getD 258 undef, F.tmps.getD 259 undef, F.tmps.getD 260 undef, F.tmps.getD 261 undef, F.tmps.getD 262 undef, F.tmps.getD 263 undef, F.tmps.getD 264 undef, F.tmps.getD 265 undef, F.tmps.getD 266 undef, F.tmps.getD 267 undef, F.tmps.getD 268 undef, F.tmps.getD 269 undef, F.tmps.getD 270 undef, F.tmps.getD 271 undef, F.tmps.getD 272 undef, F.tmps.getD 273 undef, F.tmps.getD 274 undef, F.tmps.getD 275 undef, F.tmps.getD 276 undef, F.tmps.getD 277 undef, F.tmps.getD 278 undef, F.tmps.getD 279 undef, F.tmps.getD 280 undef, F.tmps.getD 281 undef, F.tmps.getD 282 undef, F.tmps.getD 283 undef, F.tmps.getD 284 undef, F.tmps.getD 285 undef, F.tmps.getD 286 undef, F.tmps.getD 287 undef, F.tmps.getD 288 undef, F.tmps.getD 289 undef, F.tmps.getD 290 undef, F.tmps.getD 291 undef, F.tmps.getD 292 undef, F.tmps.getD 293 undef, F.tmps.getD 294 undef, F.tmps.getD 295 undef, F.tmps.getD 296 undef, F.tmps.getD 297 undef, F.tmps.getD 298 undef, F.tmps.getD 299 undef, F.tmps.getD 300 undef, F.tmps.getD 301 undef, F.tmps.getD 302 undef, F.tmps.getD 303 undef, F.tmps.getD 304 undef, F.tmps.getD 305 undef, F.tmps.getD 306 undef, F.tmps.getD 307 undef, F.tmps.getD 308 undef, F.tmps.getD 309 undef, F.tmps.getD 310 undef, F.tmps.getD 311 undef, F.tmps.getD 312 undef, F.tmps.getD 313 undef, F.tmps.getD 314 undef, F.tmps.getD 315 undef, F.tmps.getD 316 undef, F.tmps.getD 317 undef, F.tmps.getD 318 undef, F.tmps.getD 319 undef, F.tmps.getD 320 undef, F.tmps.getD 321 undef, F.tmps.getD 322 undef, F.tmps.getD 323 undef, F.tmps.getD 324 undef, F.tmps.getD 325 undef, F.tmps.getD 326 undef, F.tmps.getD 327 undef, F.tmps.getD 328 undef, F.tmps.getD 329 undef, F.tmps.getD 330 undef, F.tmps.getD 331 undef, F.tmps.getD 332 undef, F.tmps.getD 333 undef, F.tmps.getD 334 undef, F.tmps.getD 335 undef, F.tmps.getD 336 undef, F.tmps.getD 337 undef, F.tmps.getD 338 undef, F.tmps.getD 339 undef, F.tmps.getD 340 undef, F.tmps.getD 341 undef, F.tmps.getD 342 undef, F.tmps.getD 343 undef, F.tmps.getD 344 undef, F.tmps.getD 345 undef, F.tmps.getD 346 undef, F.tmps.getD 347 undef, F.tmps.getD 348 undef, F.tmps.getD 349 undef, F.tmps.getD 350 undef, F.tmps.getD 351 undef, F.tmps.getD 352 undef, F.tmps.getD 353 undef, F.tmps.getD 354 undef, F.tmps.getD 355 undef, F.tmps.getD 356 undef, F.tmps.getD 357 undef], []⟩ := by
  obtain ⟨hd, hs, h2⟩ := hfr
  have hfq := arr358 F.tmps hs
  rw [h2] at hfq
  exact act_extC hfq hd
set_option maxRecDepth 100000 in
set_option maxHeartbeats 6400000 in
theorem bc_5 {w wr : World} {H G A B Ct N n M S : Nat} {f : Nat → Value} {z c pa sy l : Nat → Nat} (hD : EnD w H G A B Ct) (hB : NdB n c pa sy) (hn : n ≤ 256) (hN : n = N + 1) (hM : M ≤ 11) (hS : S ≤ 256) (hsy : ∀ q, q < n → sy q < S) (hl : ∀ i, i < n → 1 ≤ l i ∧ l i ≤ 11) (h271 : f 271 = .slice (some ⟨Ct, 0, none⟩) S 256) (h265 : f 265 = .int .u16 (S : Nat)) (hW : EnW w H G A B Ct f (ndV (NV z n c pa sy l)) (fun _ => 0) wr) (Q : Exit → Act → World → Prop)
    (u1 u2 u3 u4 u6 u8 u9 u10 u11 u12 u13 u14 u15 u16 u20 u21 u22 u23 u24 u25 u26 u27 u28 u29 u30 u31 u32 u33 u34 u35 u36 u37 u38 u39 u40 u41 u42 u43 u44 u45 u46 u47 u48 u49 u50 u51 u52 u53 u54 u55 u56 u57 u58 u59 u60 u61 u62 u63 u64 u65 u66 u67 u68 u69 u70 u71 u72 u73 u74 u75 u76 u77 u78 u79 u80 u81 u82 u83 u84 u85 u86 u87 u88 u89 u90 u91 u92 u93 u94 u95 u96 u97 u98 u99 u100 u101 u102 u103 u104 u105 u106 u107 u108 u109 u110 u111 u112 u113 u114 u115 u116 u117 u118 u119 u120 u121 u122 u123 u124 u125 u126 u127 u128 u129 u130 u131 u132 u133 u134 u135 u136 u137 u138 u139 u140 u141 u142 u143 u144 u145 u146 u147 u148 u149 u150 u151 u152 u153 u154 u155 u156 u157 u158 u159 u160 u161 u162 u163 u164 u165 u166 u167 u168 u169 u170 u171 u172 u173 u174 u175 u176 u177 u178 u179 u180 u181 u182 u183 u184 u185 u186 u187 u188 u189 u190 u191 u192 u193 u194 u195 u196 u197 u198 u199 u200 u201 u202 u203 u204 u205 u206 u207 u208 u209 u210 u211 u212 u213 u214 u215 u216 u217 u218 u219 u220 u221 u222 u223 u224 u225 u226 u227 u228 u229 u230 u231 u232 u233 u234 u235 u236 u237 u238 u239 u240 u241 u242 u243 u244 u245 u246 u247 u248 u249 u250 u251 u252 u253 u254 u255 u256 u257 u258 u259 u260 u261 u262 u263 u264 u265 u266 u267 u268 u269 u270 u271 u272 u273 u274 u275 u276 u277 u278 u279 u280 u281 u282 u283 u284 u285 u286 u287 u288 u289 u290 u291 u292 u293 u294 u295 u296 u297 u298 u299 u300 u301 u302 u303 u304 u305 u306 u307 u308 u309 u310 u311 u312 u313 u314 u315 u316 u317 u318 u319 u320 u321 u322 u323 u324 u325 u326 u327 u328 u329 u330 u331 u332 u333 u334 u335 u336 u337 u338 u339 u340 u341 u342 u343 u344 u345 u346 u347 u348 u349 u350 u351 u352 u353 u354 u355 u356 u357 : Value)
    (hend : ∀ F w', BcR F ∧ (∃ nb, NbI n n sy nb ∧ EnW w H G A B Ct f (ndV (NV z n c pa sy l)) nb w') → Q .ret F w') :
    Code.wp Tryf.prog bcC5 Q ⟨#[.pointer (some ⟨H, 0, none⟩), u1, u2, u3, u4, .int .u16 (N : Nat), u6, .slice (some ⟨G, 1, none⟩) 512 512, u8, u9, u10, u11, u12, u13, u14, u15, u16, .int .u8 (M : Nat), .pointer (some ⟨A, 0, none⟩), .pointer (some ⟨B, 0, none⟩), u20, u21, u22, u23, u24, u25, u26, u27, u28, u29, u30, u31, u32, u33, u34, u35, u36, u37, u38, u39, u40, u41, u42, u43, u44, u45, u46, u47, u48, u49, u50, u51, u52, u53, u54, u55, u56, u57, u58, u59, u60, u61, u62, u63, u64, u65, u66, u67, u68, u69, u70, u71, u72, u73, u74, u75, u76, u77, u78, u79, u80, u81, u82, u83, u84, u85, u86, u87, u88, u89, u90, u91, u92, u93, u94, u95, u96, u97, u98, u99, u100, u101, u102, u103, u104, u105, u106, u107, u108, u109, u110, u111, u112, u113, u114, u115, u116, u117, u118, u119, u120, u121, u122, u123, u124, u125, u126, u127, u128, u129, u130, u131, u132, u133, u134, u135, u136, u137, u138, u139, u140, u141, u142, u143, u144, u145, u146, u147, u148, u149, u150, u151, u152, u153, u154, u155, u156, u157, u158, u159, u160, u161, u162, u163, u164, u165, u166, u167, u168, u169, u170, u171, u172, u173, u174, u175, u176, u177, u178, u179, u180, u181, u182, u183, u184, u185, u186, u187, u188, u189, u190, u191, u192, u193, u194, u195, u196, u197, u198, u199, u200, u201, u202, u203, u204, u205, u206, u207, u208, u209, u210, u211, u212, u213, u214, u215, u216, u217, u218, u219, u220, u221, u222, u223, u224, u225, u226, u227, u228, u229, u230, u231, u232, u233, u234, u235, u236, u237, u238, u239, u240, u241, u242, u243, u244, u245, u246, u247, u248, u249, u250, u251, u252, u253, u254, u255, u256, u257, u258, u259, u260, u261, u262, u263, u264, u265, u266, u267, u268, u269, u270, u271, u272, u273, u274, u275, u276, u277, u278, u279, u280, u281, u282, u283, u284, u285, u286, u287, u288, u289, u290, u291, u292, u293, u294, u295, u296, u297, u298, u299, u300, u301, u302, u303, u304, u305, u306, u307, u308, u309, u310, u311, u312, u313, u314, u315, u316, u317, u318, u319, u320, u321, u322, u323, u324, u325, u326, u327, u328, u329, u330, u331, u332, u333, u334, u335, u336, u337, u338, u339, u340, u341, u342, u343, u344, u345, u346, u347, u348, u349, u350, u351, u352, u353, u354, u355, u356, u357], []⟩ wr := by
  conv => arg 2; whnf
  have HD := Lib.hid hD
  have HB := Lib.hid hB
  have HN := Lib.hid hN
  have HSY := Lib.hid hsy
  have HL := Lib.hid hl
  have H271 := Lib.hid h271
  have H265 := Lib.hid h265
  have HW := Lib.hid hW
  have HE := Lib.hid hend
  have hN5 : (N : Int) + 1 ≤ 512 := by omega
  have hN6 : (N : Int) + 1 < 65536 := by omega
  have hNn : (N : Int) + 1 = (n : Nat) := by omega
  have hn512 : (n : Int) ≤ 512 := by omega
  clear hD hB hN hsy hl h271 h265 hW hend
  go_wp2_with fail
  rename_i K1 a1
  have HA := Lib.hid a1
  clear a1
  refine en_l12 HD.out HB.out hn HL.out HW.out _ _ _ _ _ _ _ _ _ _ _ _ _ _ _ _ _ _ _ _ _ _ _ _ _ _ _ _ _ _ _ _ _ _ _ _ _ _ _ _ _ _ _ _ _ _ _ _ _ _ _ _ _ _ _ _ _ _ _ _ _ _ _ _ _ _ _ _ _ _ _ _ _ _ _ _ _ _ _ _ _ _ _ _ _ _ _ _ _ _ _ _ _ _ _ _ _ _ _ _ _ _ _ _ _ _ _ _ _ _ _ _ _ _ _ _ _ _ _ _ _ _ _ _ _ _ _ _ _ _ _ _ _ _ _ _ _ _ _ _ _ _ _ _ _ _ _ _ _ _ _ _ _ _ _ _ _ _ _ _ _ _ _ _ _ _ _ _ _ _ _ _ _ _ _ _ _ _ _ _ _ _ _ _ _ _ _ _ _ _ _ _ _ _ _ _ _ _ _ _ _ _ _ _ _ _ _ _ _ _ _ _ _ _ _ _ _ _ _ _ _ _ _ _ _ _ _ _ _ _ _ _ _ _ _ _ _ _ _ _ _ _ _ _ _ _ _ _ _ _ _ _ _ _ _ _ _ _ _ _ _ _ _ _ _ _ _ _ _ _ _ _ _ _ _ _ _ _ _ _ _ _ _ _ _ _ _ _ _ _ _ _ _ _ _ _ _ _ _ _ _ _ _ _ _ _ _ _ _ _ _ _ _ _ _ _ _ _ _ _ _ _ _ _ _ _ _ _ _ _ _ _ _ _ _ _ _ _ _ _ _ _ _ _ _ _ _ _ _ _ ?_
  rintro F w1 ⟨hF, hW1⟩
  refine HA.out _ _ ?_
  rw [en_frame hF]
  have HW1 := Lib.hid hW1
  clear hW1 hF HA HW
  go_wp2_with fail
  rename_i K2 a2
  have HA := Lib.hid a2
  clear a2
  refine en_l14 HD.out HB.out HL.out HW1.out hM _ _ _ _ _ _ _ _ _ _ _ _ _ _ _ _ _ _ _ _ _ _ _ _ _ _ _ _ _ _ _ _ _ _ _ _ _ _ _ _ _ _ _ _ _ _ _ _ _ _ _ _ _ _ _ _ _ _ _ _ _ _ _ _ _ _ _ _ _ _ _ _ _ _ _ _ _ _ _ _ _ _ _ _ _ _ _ _ _ _ _ _ _ _ _ _ _ _ _ _ _ _ _ _ _ _ _ _ _ _ _ _ _ _ _ _ _ _ _ _ _ _ _ _ _ _ _ _ _ _ _ _ _ _ _ _ _ _ _ _ _ _ _ _ _ _ _ _ _ _ _ _ _ _ _ _ _ _ _ _ _ _ _ _ _ _ _ _ _ _ _ _ _ _ _ _ _ _ _ _ _ _ _ _ _ _ _ _ _ _ _ _ _ _ _ _ _ _ _ _ _ _ _ _ _ _ _ _ _ _ _ _ _ _ _ _ _ _ _ _ _ _ _ _ _ _ _ _ _ _ _ _ _ _ _ _ _ _ _ _ _ _ _ _ _ _ _ _ _ _ _ _ _ _ _ _ _ _ _ _ _ _ _ _ _ _ _ _ _ _ _ _ _ _ _ _ _ _ _ _ _ _ _ _ _ _ _ _ _ _ _ _ _ _ _ _ _ _ _ _ _ _ _ _ _ _ _ _ _ _ _ _ _ _ _ _ _ _ _ _ _ _ _ _ _ _ _ _ _ _ _ _ _ _ _ _ _ _ _ _ _ _ _ _ _ _ _ _ _ _ _ _ ?_
  rintro F w2 ⟨hF, hW2⟩
  refine HA.out _ _ ?_
  rw [en_frame hF]
  have HW2 := Lib.hid hW2
  clear hW2 hF HA HW1
  go_wp2_with fail
  rename_i K3 a3
  have HA := Lib.hid a3
  clear a3
  refine en_l16 HD.out HB.out hn HL.out HW2.out HSY.out hS H271.out _ _ _ _ _ _ _ _ _ _ _ _ _ _ _ _ _ _ _ _ _ _ _ _ _ _ _ _ _ _ _ _ _ _ _ _ _ _ _ _ _ _ _ _ _ _ _ _ _ _ _ _ _ _ _ _ _ _ _ _ _ _ _ _ _ _ _ _ _ _ _ _ _ _ _ _ _ _ _ _ _ _ _ _ _ _ _ _ _ _ _ _ _ _ _ _ _ _ _ _ _ _ _ _ _ _ _ _ _ _ _ _ _ _ _ _ _ _ _ _ _ _ _ _ _ _ _ _ _ _ _ _ _ _ _ _ _ _ _ _ _ _ _ _ _ _ _ _ _ _ _ _ _ _ _ _ _ _ _ _ _ _ _ _ _ _ _ _ _ _ _ _ _ _ _ _ _ _ _ _ _ _ _ _ _ _ _ _ _ _ _ _ _ _ _ _ _ _ _ _ _ _ _ _ _ _ _ _ _ _ _ _ _ _ _ _ _ _ _ _ _ _ _ _ _ _ _ _ _ _ _ _ _ _ _ _ _ _ _ _ _ _ _ _ _ _ _ _ _ _ _ _ _ _ _ _ _ _ _ _ _ _ _ _ _ _ _ _ _ _ _ _ _ _ _ _ _ _ _ _ _ _ _ _ _ _ _ _ _ _ _ _ _ _ _ _ _ _ _ _ _ _ _ _ _ _ _ _ _ _ _ _ _ _ _ _ _ _ _ _ _ _ _ _ _ _ _ _ _ _ _ _ _ _ _ _ _ _ _ _ _ _ _ _ _ _ _ _ _ _ ?_
  rintro F w3 ⟨hF, nb, hI3, hW3⟩
  refine HA.out _ _ ?_
  rw [en_frame hF]
  have HW3 := Lib.hid hW3
  have HI3 := Lib.hid hI3
  have k271 : w3.cell? ⟨H, 271, none⟩ = some (.slice (some ⟨Ct, 0, none⟩) S 256) := hW3.h.cellv 271 (by omega) _ H271.out
  have k265 : w3.cell? ⟨H, 265, none⟩ = some (.int .u16 (S : Nat)) := hW3.h.cellv 265 (by omega) _ H265.out
  have hSi : (S : Int) ≤ 256 := by omega
  clear hW3 hI3 hF HA HW2
  go_wp2_with fail
  go_upto_region 79 with fail
  go_quiet (fail)
  have hW4 := HW3.out.drewN nq
  generalize World.drewN w3 nq = w4 at hW4 ⊢
  have HW4 := Lib.hid hW4
  clear hW4 HW3 k271 k265
  go_wp2_with fail
  rename_i K4 a4
  have HA := Lib.hid a4
  clear a4
  refine en_l18 HD.out hS HI3.out.le HW4.out _ _ _ _ _ _ _ _ _ _ _ _ _ _ _ _ _ _ _ _ _ _ _ _ _ _ _ _ _ _ _ _ _ _ _ _ _ _ _ _ _ _ _ _ _ _ _ _ _ _ _ _ _ _ _ _ _ _ _ _ _ _ _ _ _ _ _ _ _ _ _ _ _ _ _ _ _ _ _ _ _ _ _ _ _ _ _ _ _ _ _ _ _ _ _ _ _ _ _ _ _ _ _ _ _ _ _ _ _ _ _ _ _ _ _ _ _ _ _ _ _ _ _ _ _ _ _ _ _ _ _ _ _ _ _ _ _ _ _ _ _ _ _ _ _ _ _ _ _ _ _ _ _ _ _ _ _ _ _ _ _ _ _ _ _ _ _ _ _ _ _ _ _ _ _ _ _ _ _ _ _ _ _ _ _ _ _ _ _ _ _ _ _ _ _ _ _ _ _ _ _ _ _ _ _ _ _ _ _ _ _ _ _ _ _ _ _ _ _ _ _ _ _ _ _ _ _ _ _ _ _ _ _ _ _ _ _ _ _ _ _ _ _ _ _ _ _ _ _ _ _ _ _ _ _ _ _ _ _ _ _ _ _ _ _ _ _ _ _ _ _ _ _ _ _ _ _ _ _ _ _ _ _ _ _ _ _ _ _ _ _ _ _ _ _ _ _ _ _ _ _ _ _ _ _ _ _ _ _ _ _ _ _ _ _ _ _ _ _ _ _ _ _ _ _ _ _ _ _ _ _ _ _ _ _ _ _ _ _ _ _ _ _ _ _ _ _ _ _ ?_
  rintro F w5 ⟨⟨v26, hF⟩, hW5⟩
  refine HA.out _ _ ?_
  rw [en_frame hF]
  have HW5 := Lib.hid hW5
  clear hW5 hF HA HW4
  go_wp2_with fail
  exact HE.out _ _ ⟨⟨rfl, rfl, rfl⟩, nb, HI3.out, HW5.out⟩
end Go.Proofs.YthkklojjpgjiiaaFmt
