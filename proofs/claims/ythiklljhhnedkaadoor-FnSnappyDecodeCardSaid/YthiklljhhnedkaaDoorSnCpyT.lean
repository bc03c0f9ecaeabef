/-
  snapref.decode: the tail of a copy of n bytes from off bytes back. Conditions: those of the theorem.
-/
import Derived.Test.YthiklljhhnedkaaDoorSnGoD
namespace Go.Proofs.YthiklljhhnedkaaDoor
open Go.RowKit

/-- the inner loop's head: i bytes are copied -/
theorem rowZ {w : World} {D i t : Nat} {R : Array Value} {v : Value} (h : Hid (w.heap[D]? = some (.cells R t (0, 0)))) : Hid ((w.setCell ⟨D, i, none⟩ v).heap[D]? = some (.cells (R.setIfInBounds i v) t (0, 0))) :=
  Lib.hid (by simp [World.setCell, Array.getElem?_modify, h.out])
theorem belZ {w w' : World} {D i : Nat} (h : Below D w w') (v : Value) : Below D w (w'.setCell ⟨D, i, none⟩ v) := h.setCell (p := ⟨D, i, none⟩) (Nat.le_refl D) v
def RelN (o z : List UInt8) (off n g : Nat) (w : World) (v : Value) (w' : World) : Prop :=
  ∃ i : Nat, v = .int .i64 i ∧ i ≤ n ∧ Hid (w'.heap[g]? = some (.cells (Lib.byteCells (copyN o off i ++ z.drop i)).toArray 5 (0, 0))) ∧ Below g w w'
set_option maxRecDepth 100000 in
set_option maxHeartbeats 6400000 in
theorem cpy_tail (q : List UInt8) (L g gq oq c : Nat) (D : Option Addr) (w : World) (R : Option (List UInt8) × Nat) (k p off n : Nat) (P : Int) (o z : List UInt8) (wr : World) (Q : Exit → Act → World → Prop) (K1 K2 : Act → World → Prop)
    (u2 u3 u4 u9 u10 u11 u12 u13 u14 u15 u16 u17 u18 u19 u20 u21 u22 u23 u24 u25 u26 u27 u28 u29 u30 u31 u32 u33 u34 u35 u36 u37 u38 u39 u40 u41 u42 u43 u44 u45 u46 u47 u48 u49 u50 u51 u52 u53 u54 u55 u56 u57 u58 u59 u60 u61 u62 u63 u64 u65 u66 u67 u68 u69 u70 u71 u72 u73 u74 u75 u76 u77 u78 u79 u80 u81 u82 u83 u84 u85 u86 u87 u88 u89 u90 u91 u92 u93 u94 u95 u96 u97 u98 u99 u100 u101 u102 u103 u104 u105 u106 u107 u108 u109 u110 u111 u112 u113 u114 u115 u116 u117 u118 u119 u120 u121 u122 u123 u124 u125 u126 u127 u128 u129 u130 u131 u132 u133 u134 u135 u136 u137 u138 u139 u140 u141 u142 u143 u144 u145 u146 u147 u148 u149 u150 u151 u152 u153 u154 u155 u156 u157 u158 u159 u160 u161 u162 u163 u164 u165 u166 u167 u168 u169 u170 u171 u172 u173 u174 u175 u176 u177 u178 u179 u180 u181 u182 u183 u184 u185 u186 u187 u188 u189 u190 u191 u192 u193 u194 u195 u196 u197 u198 u199 u200 u201 u202 u203 u204 u205 u206 u207 u208 u209 u210 u211 u212 u213 u214 u215 u216 u217 u218 u219 u220 u221 u222 u223 u224 u225 u226 u227 u228 u229 u230 u231 u232 u233 u234 u235 u236 u237 u238 u239 u240 u241 u242 u243 u244 u245 u246 u247 u248 u249 u250 u251 u252 u253 u254 u255 u256 u257 u258 u259 u260 u261 u262 u263 u264 u265 u266 u267 u268 u269 u270 u271 u272 u273 u274 u275 u276 u277 u278 u279 u280 u281 u282 u283 u284 u285 u286 u287 u288 u289 u290 u291 u292 u293 u294 u295 u296 u297 u298 u299 u300 u301 u302 u303 u304 u305 u306 u307 u308 u309 u310 u311 u312 u313 u314 u315 u316 u317 u318 u319 u320 u321 u322 u323 u324 u325 u326 u327 u328 u329 u330 u331 u332 u333 u334 u335 u336 u337 u338 u339 u340 u341 u342 u343 u344 u345 u346 u347 u348 u349 u350 u351 u352 u353 u354 u355 u356 u357 u358 u359 u360 u361 u362 u363 u364 u365 u366 u367 u368 u369 u370 : Value)
    (hLm : L ≤ 200000)
    (hoz : o.length + z.length = L) (hD : 0 < L → D = some ⟨g, 0, none⟩) (HW : 0 < L → wr.heap[g]? = some (.cells (Lib.byteCells (o ++ z)).toArray 5 (0, 0))) (hb : Below g w wr) (hkp : k < p) (hpq : p ≤ q.length) (hn0 : 0 < n) (hn : n ≤ 64) (hof : off < 4294967296)
    (hbad : off = 0 ∨ o.length < off ∨ L < o.length + n → R = (none, 1)) (hgood : 0 < off → off ≤ o.length → snGo q L p (copyN o off n) = R)
    (hP : P = (p : Int)) (hexit : ∀ F w', Nxt q L g D (some ⟨gq, oq, none⟩) c w R k F w' → Q .normal F w') (hexit1 : ∀ F w', Nxt q L g D (some ⟨gq, oq, none⟩) c w R k F w' → Q (.exit 1) F w') (hret : ∀ F w', Bad g w R F w' → Q .ret F w')
    (hK1 : ∀ F w', Code.wp Tryd.prog (cR (cL cpyCode)) (Exit.then K2 Q) F w' → K1 F w') (hK2 : ∀ F w', Code.wp Tryd.prog (cR cpyCode) Q F w' → K2 F w') :
    Code.wp Tryd.prog (cL (cL cpyCode)) (Exit.then K1 (Exit.then K2 Q)) ⟨#[.slice D L L, .slice (some ⟨gq, oq, none⟩) q.length c, u2, u3, u4, .int .i64 o.length, .int .i64 P, .int .i64 off, .int .i64 n, u9, u10, u11, u12, u13, u14, u15, u16, u17, u18, u19, u20, u21, u22, u23, u24, u25, u26, u27, u28, u29, u30, u31, u32, u33, u34, u35, u36, u37, u38, u39, u40, u41, u42, u43, u44, u45, u46, u47, u48, u49, u50, u51, u52, u53, u54, u55, u56, u57, u58, u59, u60, u61, u62, u63, u64, u65, u66, u67, u68, u69, u70, u71, u72, u73, u74, u75, u76, u77, u78, u79, u80, u81, u82, u83, u84, u85, u86, u87, u88, u89, u90, u91, u92, u93, u94, u95, u96, u97, u98, u99, u100, u101, u102, u103, u104, u105, u106, u107, u108, u109, u110, u111, u112, u113, u114, u115, u116, u117, u118, u119, u120, u121, u122, u123, u124, u125, u126, u127, u128, u129, u130, u131, u132, u133, u134, u135, u136, u137, u138, u139, u140, u141, u142, u143, u144, u145, u146, u147, u148, u149, u150, u151, u152, u153, u154, u155, u156, u157, u158, u159, u160, u161, u162, u163, u164, u165, u166, u167, u168, u169, u170, u171, u172, u173, u174, u175, u176, u177, u178, u179, u180, u181, u182, u183, u184, u185, u186, u187, u188, u189, u190, u191, u192, u193, u194, u195, u196, u197, u198, u199, u200, u201, u202, u203, u204, u205, u206, u207, u208, u209, u210, u211, u212, u213, u214, u215, u216, u217, u218, u219, u220, u221, u222, u223, u224, u225, u226, u227, u228, u229, u230, u231, u232, u233, u234, u235, u236, u237, u238, u239, u240, u241, u242, u243, u244, u245, u246, u247, u248, u249, u250, u251, u252, u253, u254, u255, u256, u257, u258, u259, u260, u261, u262, u263, u264, u265, u266, u267, u268, u269, u270, u271, u272, u273, u274, u275, u276, u277, u278, u279, u280, u281, u282, u283, u284, u285, u286, u287, u288, u289, u290, u291, u292, u293, u294, u295, u296, u297, u298, u299, u300, u301, u302, u303, u304, u305, u306, u307, u308, u309, u310, u311, u312, u313, u314, u315, u316, u317, u318, u319, u320, u321, u322, u323, u324, u325, u326, u327, u328, u329, u330, u331, u332, u333, u334, u335, u336, u337, u338, u339, u340, u341, u342, u343, u344, u345, u346, u347, u348, u349, u350, u351, u352, u353, u354, u355, u356, u357, u358, u359, u360, u361, u362, u363, u364, u365, u366, u367, u368, u369, u370], []⟩ wr := by
  subst hP
  refine wp_mono (?_ : Code.wp Tryd.prog (cL (cL cpyCode)) (Exit.then (fun F w' => Code.wp Tryd.prog (cR (cL cpyCode)) (Exit.then (fun F w' => Code.wp Tryd.prog (cR cpyCode) Q F w') Q) F w') Q) _ wr) (fun e F w' hq => ?_)
  case refine_2 =>
    cases e with
    | normal =>
      refine hK1 _ _ (wp_mono hq fun e F w' hq => ?_)
      cases e with
      | normal => exact hK2 _ _ hq
      | exit id => exact hq
      | goto l => exact hq
      | ret => exact hq
      | panic ch => exact hq
      | outgrown => exact hq
    | exit id => exact hq
    | goto l => exact hq
    | ret => exact hq
    | panic ch => exact hq
    | outgrown => exact hq
  clear hK1 hK2
  conv => arg 2; whnf
  have HG := Lib.hid HW
  have HDD := Lib.hid hD
  have HB := Lib.hid hbad
  have HK := Lib.hid hgood
  have HOZ := Lib.hid hoz
  have HE := Lib.hid hexit
  have HE1 := Lib.hid hexit1
  have g2 : IntKind.i64.wrap ((L : Int) - (o.length : Int)) = (L : Int) - (o.length : Int) := by rw [IntKind.wrap_i64]; omega
  clear HW hD hbad hgood hexit hexit1
  by_cases h0 : off = 0
  · have t1 : ((off : Int) ≤ 0) = True := by simp only [eq_iff_iff, iff_true]; omega
    have hbb := Lib.hid (HB.out (.inl h0))
    have h01 : off ≤ o.length := by omega
    clear hoz HB HK
    go_wp2_with fail
    conv => arg 2; whnf
    go_wp2_with fail
    exact ⟨rfl, rfl, rfl, hb, hbb.out⟩
  · have t1 : ((off : Int) ≤ 0) = False := by simp only [eq_iff_iff, iff_false]; omega
    by_cases h1 : o.length < off
    · have t2 : (o.length : Int) < (off : Int) := by omega
      have hbb := Lib.hid (HB.out (.inr (.inl h1)))
      clear hoz HB HK
      go_wp2_with fail
      conv => arg 2; whnf
      go_wp2_with fail
      exact ⟨rfl, rfl, rfl, hb, hbb.out⟩
    · have t2 : (off : Int) ≤ (o.length : Int) := by omega
      by_cases h2 : L < o.length + n
      · have t3 : (L : Int) - (o.length : Int) < (n : Int) := by omega
        have hbb := Lib.hid (HB.out (.inr (.inr h2)))
        have h1' : off ≤ o.length := by omega
        clear h1 h2 hoz HB HK
        go_wp2_with fail
        conv => arg 2; whnf
        go_wp2_with fail
        exact ⟨rfl, rfl, rfl, hb, hbb.out⟩
      · have HL0 : 0 < L := by omega
        obtain rfl := HDD.out HL0
        have HG := Lib.hid (HG.out HL0)
        have t3 : (n : Int) ≤ (L : Int) - (o.length : Int) := by omega
        have g5 : IntKind.i64.wrap ((o.length : Int) + (n : Int)) = (o.length : Int) + (n : Int) := by rw [IntKind.wrap_i64]; omega
        have g6 : IntKind.i64.wrap ((o.length : Int) - (off : Int)) = (o.length : Int) - (off : Int) := by rw [IntKind.wrap_i64]; omega
        have hK := HK.out (by omega) (by omega)
        have H0 := Lib.hid h0
        have H1 := Lib.hid h1
        have H2 := Lib.hid h2
        have h1' : off ≤ o.length := by omega
        have hoL : o.length < L := by omega
        have hoLi : (o.length : Int) < (L : Int) := by omega
        have HKK := Lib.hid hK
        clear h1 h2 hoz HB HK hK hret
        by_cases hfar : n ≤ off
        · have t4 : (n : Int) ≤ (off : Int) := by omega
          have HF := Lib.hid hfar
          go_wp2_with fail
          conv => arg 2; whnf
          go_wp2_with fail
          conv => arg 2; whnf
          go_wp2_with fail
          refine wp_region_quiet_tail 11 (by kernel_rfl) (by kernel_rfl) ?_
          simp only [List.take_succ_cons, List.take_zero, List.drop_succ_cons, List.drop_zero]
          repeat (go_big_quiet_step (fail))
          refine wpQuiet_nil ?_
          obtain ⟨M, hM⟩ : ∃ M, (o.drop (o.length - off)).take n = M := ⟨_, rfl⟩
          have hMl : M.length = n := by rw [← hM]; simp; omega
          have hM2 : ((o ++ z).drop (o.length - off)).take n = M := by rw [← hM, List.drop_append_of_le_length (by omega), List.take_append_of_le_length (by simp; omega)]
          have hcp : copyN o off n = o ++ M := by rw [← hM]; exact copyN_piece o off n hfar h1'
          have hOZ := HOZ.out
          have hKK := HKK.out
          rw [hcp] at hKK
          have hsp := snGo_spl (o := o) (z := z) M
          refine wpList_copy_splice (by rfl) (.tmp 326) (.tmp 331) 22 22 (by rfl) 5 Tryd.underlying22 (by kernel_rfl) (some ⟨g, o.length, none⟩) (some ⟨g, o.length - off, none⟩) (o.length + n - o.length) (L - o.length) (L - (o.length - off)) (L - (o.length - off)) (by rfl) (by rfl) g o.length (Lib.byteCells (o ++ z)) 5 HG.out (Lib.byteCells M) (by rw [byteCells_len, hMl]; simp [Nat.min_def]; omega) (fun _ => ⟨rfl, ⟨g, o.length - off, none⟩, rfl, fun j v hv => by rw [← hM2] at hv; exact row_cells (wr := wr.drewN 1) HG.out (o.length - off) n j v hv⟩) (by rw [byteCells_len, byteCells_len, hMl]; simp; have := H2.out; omega) (fun v hv => byteCells_one hv) g w (below_drewN hb 1) (Nat.le_refl g) ?_
          intro w' hG2 hB2
          rw [hsp] at hG2
          have HG2 := Lib.hid hG2.out
          have HK3 := Lib.hid hKK
          have hd5 : (o.length : Int) + (n : Int) = (((o ++ M).length : Nat) : Int) := by simp [hMl]
          have HD5 := Lib.hid hd5
          have HML := Lib.hid hMl
          clear hG2 hKK hd5 hMl hM hM2 hcp hsp hOZ
          have hexit1 := HE1.out
          go_wp2_with fail
          exact ⟨p, o ++ M, z.drop M.length, ⟨rfl, rfl, rfl, rfl, congrArg (Value.int .i64) HD5.out, rfl⟩, by omega, hpq, by have := HML.out; have := HOZ.out; have := H2.out; simp; omega, fun _ => HG2.out, hB2, HK3.out⟩
        · have t4 : (off : Int) < (n : Int) := by omega
          have HF := Lib.hid hfar
          go_wp2_with fail
          conv => arg 2; whnf
          go_wp2_with fail
          conv => arg 2; whnf
          go_wp2_with fail
          go_loopw [353] (fun v wx => RelN o z off n g w v wx) (fun v _ => n - (intOf v).toNat)
          case atStart => exact ⟨0, rfl, by omega, by simpa [copyN] using HG, hb⟩
          case round =>
            obtain ⟨i, rfl, hin, HW2, hb2⟩ := hrel
            have hlen := copyN_length i o off
            by_cases hi : i < n
            · have hii : (i : Int) < (n : Int) := by omega
              have hnz : n ≤ z.length := by have := HOZ.out; have := H2.out; omega
              obtain ⟨b, hbv⟩ : ∃ b : UInt8, (copyN o off i ++ z.drop i).getD (o.length - off + i) 0 = b := ⟨_, rfl⟩
              have c1 := near_cell (n := n) (off := off) i wr g 5 hnz hi h1' HW2.out
              rw [hbv] at c1
              have hrow := near_row (o := o) (z := z) (off := off) (n := n) i hi hnz (by omega) h1'
              rw [hbv] at hrow
              have c2 : wr.cell? ⟨g, o.length + i, none⟩ = some (.int .u8 ((z.getD i 0).toNat : Int)) := by
                rw [cell_of_row wr g _ _ 5 (0, 0) HW2.out, List.getElem?_toArray]
                unfold Lib.byteCells
                rw [List.getElem?_map, List.getElem?_append_right (by omega), hlen, Nat.sub_self, List.getElem?_drop, Nat.add_zero, List.getElem?_eq_getElem (by omega), List.getD_eq_getElem?_getD, List.getElem?_eq_getElem (by omega)]
                rfl
              have f2 := frozen_of_row wr g (o.length + i) _ 5 HW2.out
              have HROW := Lib.hid hrow
              have hiw : IntKind.i64.wrap ((i : Int) + 1) = (i : Int) + 1 := by rw [IntKind.wrap_i64]; omega
              clear hrow hbv hlen hin
              go_wp2_with fail
              go_roundw
              case measure => simp [intOf]; omega
              case rel =>
                refine ⟨i + 1, by simp, by omega, ?_, belZ hb2 _⟩
                have h4 := rowZ HW2 (i := o.length + i) (v := .int .u8 (b.toNat : Int))
                rw [HROW.out] at h4
                exact h4
            · obtain rfl : i = n := by omega
              have hll : decide ((i : Int) < (i : Int)) = false := by simp
              have hd5 : (o.length : Int) + (i : Int) = (((copyN o off i).length : Nat) : Int) := by rw [hlen]; simp
              have HD5 := Lib.hid hd5
              have HLEN := Lib.hid hlen
              have hexit := HE.out
              clear hd5 hlen hin
              go_wp2_with fail
              exact ⟨p, copyN o off i, z.drop i, ⟨rfl, rfl, rfl, rfl, congrArg (Value.int .i64) HD5.out, rfl⟩, by omega, hpq, by have := HLEN.out; have := HOZ.out; have := H2.out; simp; omega, fun _ => HW2.out, hb2, HKK.out⟩
end Go.Proofs.YthiklljhhnedkaaDoor
