/-
  fse.decompress: symbols four at a time. Conditions: those of the theorem.
  fse.decompress: symbols four at a time. Conditions: those of the theorem.
-/
import Derived.Test.YthkklojjpgjiiaaFmtHuffT33
namespace Go.Proofs.YthkklojjpgjiiaaFmt
open Go.RowKit Go.Extern.Stop Go.Stop Go.Extern

set_option maxRecDepth 100000 in
set_option maxHeartbeats 6400000 in
theorem dl_l1 {w0 wr : World} {D U T S G1 G2 H : Nat} {Z : Option Obj} {A : Option Addr} {n c : Nat} {l : List UInt8} {f0 : Nat → Value} {sy bt bs : Nat → Nat} {R : WRes} {EX : Act → World → Prop} (E : DcE D U T S G1 G2 H sy bt bs) (hf : ∀ i, i < S → 1 ≤ bt i) (hn : n ≤ 1000000)
    (u1 u2 u4 u9 u10 u11 u12 u13 u14 u15 u16 u17 u18 u19 u20 u21 u22 u23 u24 u25 u26 u27 u28 u29 u30 u31 u32 u33 u34 u35 u36 u37 u38 u39 u40 u41 u42 u43 u44 u45 u46 u47 u48 u49 u50 u51 u52 u53 u54 u55 u56 u57 u58 u59 u60 u61 u62 u63 u64 u65 u66 u67 u68 u69 u70 u71 u72 u73 u74 u75 u76 u77 u78 u79 u80 u81 u82 u83 u84 u85 u86 u87 u88 u89 u90 u91 u92 u93 u94 u95 u96 u97 u98 u99 u100 u101 u102 u103 u104 u105 u106 u107 u108 u109 u110 u111 u112 u113 u114 u115 u116 u117 u118 u119 u120 u121 u122 u123 u124 u125 u126 u127 u128 u129 u130 u131 u132 u133 u134 u135 u136 u137 u138 u139 u140 u141 u142 u143 u144 u145 u146 u147 u148 u149 u150 u151 u152 u153 u154 u155 u156 u157 u158 u159 u160 u161 u162 u163 u164 u165 u166 u167 u168 u169 u170 u171 u172 u173 u174 u175 u176 u177 u178 u179 u180 u181 u182 u183 u184 u185 u186 u187 u188 u189 u190 u191 u192 u193 u194 u195 u196 u197 u198 u199 u200 u201 u202 u203 u204 u205 u206 u207 u208 u209 u210 u211 u212 u213 u214 u215 u216 u217 u218 u219 u220 u221 u222 u223 u224 u225 u226 u227 u228 u229 u230 u231 u232 u233 u234 u235 u236 u237 u238 u239 u240 u241 u242 u243 u244 u245 u246 u247 u248 u249 u250 u251 u252 u253 u254 u255 u256 u257 u258 u259 u260 u261 u262 u263 u264 : Value) (Q : Exit → Act → World → Prop) (hst : DlRel w0 D U T S G1 G2 H Z A n c l f0 sy bt bs R (.int .u8 0) wr)
    (hfull : ∀ off rd a1 a2 out w' F' (Q1 : Exit → Act → World → Prop), (∀ F w, EX F w → Q1 .ret F w) → out.length = 256 → St1 w0 D U T S G1 G2 H Z A n c l f0 sy bt bs R off rd a1 a2 out w' → DlF D U G1 G2 (.int .u8 0) F' → Code.wp Tryf.prog dlX1 Q1 F' w')
    (hret : ∀ F' w', EX F' w' → Q .ret F' w')
    (hend : ∀ F' w' v8, DlF D U G1 G2 v8 F' → DlRel w0 D U T S G1 G2 H Z A n c l f0 sy bt bs R v8 w' → Q (.exit 0) F' w') :
    Code.wp Tryf.prog dlL1 Q ⟨#[.pointer (some ⟨D, 0, none⟩), u1, u2, .pointer (some ⟨D, 514, none⟩), u4, .pointer (some ⟨G1, 0, none⟩), .pointer (some ⟨G2, 0, none⟩), .slice (some ⟨U, 0, none⟩) 256 256, .int .u8 0, u9, u10, u11, u12, u13, u14, u15, u16, u17, u18, u19, u20, u21, u22, u23, u24, u25, u26, u27, u28, u29, u30, u31, u32, u33, u34, u35, u36, u37, u38, u39, u40, u41, u42, u43, u44, u45, u46, u47, u48, u49, u50, u51, u52, u53, u54, u55, u56, u57, u58, u59, u60, u61, u62, u63, u64, u65, u66, u67, u68, u69, u70, u71, u72, u73, u74, u75, u76, u77, u78, u79, u80, u81, u82, u83, u84, u85, u86, u87, u88, u89, u90, u91, u92, u93, u94, u95, u96, u97, u98, u99, u100, u101, u102, u103, u104, u105, u106, u107, u108, u109, u110, u111, u112, u113, u114, u115, u116, u117, u118, u119, u120, u121, u122, u123, u124, u125, u126, u127, u128, u129, u130, u131, u132, u133, u134, u135, u136, u137, u138, u139, u140, u141, u142, u143, u144, u145, u146, u147, u148, u149, u150, u151, u152, u153, u154, u155, u156, u157, u158, u159, u160, u161, u162, u163, u164, u165, u166, u167, u168, u169, u170, u171, u172, u173, u174, u175, u176, u177, u178, u179, u180, u181, u182, u183, u184, u185, u186, u187, u188, u189, u190, u191, u192, u193, u194, u195, u196, u197, u198, u199, u200, u201, u202, u203, u204, u205, u206, u207, u208, u209, u210, u211, u212, u213, u214, u215, u216, u217, u218, u219, u220, u221, u222, u223, u224, u225, u226, u227, u228, u229, u230, u231, u232, u233, u234, u235, u236, u237, u238, u239, u240, u241, u242, u243, u244, u245, u246, u247, u248, u249, u250, u251, u252, u253, u254, u255, u256, u257, u258, u259, u260, u261, u262, u263, u264], []⟩ wr := by
  conv => arg 2; whnf
  have HST := Lib.hid hst
  have HEND := Lib.hid hend
  have HFULL := Lib.hid hfull
  have HRET := Lib.hid hret
  clear hst hend hfull hret
  go_wp2_with fail
  go_loopw [8] (DlRel w0 D U T S G1 G2 H Z A n c l f0 sy bt bs R) (fun v8 _ => 256 - (intOf v8).toNat)
  case atStart => exact HST.out
  case round =>
    obtain ⟨off, rd, a1, a2, out, rfl, hol, ho4, hS⟩ := hrel
    have q1 := hS.offCell
    obtain ⟨o, ho⟩ : ∃ o, out.length = o := ⟨_, rfl⟩
    rw [ho] at hol ho4 ⊢
    have HO := Lib.hid ho
    have HS := Lib.hid hS
    have HO4 := Lib.hid ho4
    clear ho hS ho4
    by_cases h8 : 8 ≤ off
    · have hd : decide ((8 : Int) ≤ (off : Int)) = true := decide_eq_true (by omega)
      go_wp2_with fail
      refine (HS.out.fillFast E hn (by omega)).mono ?_
      rintro e w1 ⟨rfl, off1, rd1, hr32, hoo, hS1⟩
      have HS1 := Lib.hid hS1
      clear hS1 q1
      go_wp2_with fail
      have HO5 := Lib.hid hol
      have HB1 := Lib.hid (E.hbt _ HS1.out.h1)
      refine (st1F E hf HS1.out (by have h1 := E.hbt _ HS1.out.h1; have h2 := E.hbt _ HS1.out.h2;  omega) (by rw [HO.out]; omega)).mono ?_
      rintro e w10 ⟨rfl, hM⟩
      obtain ⟨⟨qv0, hqv0⟩, hqf0⟩ := hM.cells (o) (by omega)
      obtain ⟨b0, hSn⟩ := hM.lay E
      rw [show List.length _ = o by simp [HO.out]] at hSn
      have HS2 := Lib.hid hSn
      clear hM hSn
      go_wp2_with fail
      refine (st2F E hf HS2.out (by have h1 := E.hbt _ HS2.out.h1; have h2 := E.hbt _ HS2.out.h2; have h3 := HB1.out; omega) (by have := HO.out; have := HO5.out; simp only [List.length_append, List.length_cons, List.length_nil]; omega)).mono ?_
      rintro e w11 ⟨rfl, hM⟩
      obtain ⟨⟨qv1, hqv1⟩, hqf1⟩ := hM.cells (o + 1) (by omega)
      obtain ⟨b1, hSn⟩ := hM.lay E
      rw [show List.length _ = o + 1 by simp [HO.out]] at hSn
      have HS3 := Lib.hid hSn
      clear hM hSn
      go_wp2_with fail
      refine (HS3.out.fillFast E hn (by omega)).mono ?_
      rintro e w20 ⟨rfl, off2, rd2, hr32b, hoo2, hS4⟩
      have HS4 := Lib.hid hS4
      clear hS4
      go_wp2_with fail
      have HB4 := Lib.hid (E.hbt _ HS4.out.h1)
      refine (st1F E hf HS4.out (by have h1 := E.hbt _ HS4.out.h1; have h2 := E.hbt _ HS4.out.h2;  omega) (by have := HO.out; have := HO5.out; simp only [List.length_append, List.length_cons, List.length_nil]; omega)).mono ?_
      rintro e w12 ⟨rfl, hM⟩
      obtain ⟨⟨qv2, hqv2⟩, hqf2⟩ := hM.cells (o + 2) (by omega)
      obtain ⟨b2, hSn⟩ := hM.lay E
      rw [show List.length _ = o + 2 by simp [HO.out]] at hSn
      have HS5 := Lib.hid hSn
      clear hM hSn
      go_wp2_with fail
      refine (st2F E hf HS5.out (by have h1 := E.hbt _ HS5.out.h1; have h2 := E.hbt _ HS5.out.h2; have h3 := HB4.out; omega) (by have := HO.out; have := HO5.out; simp only [List.length_append, List.length_cons, List.length_nil]; omega)).mono ?_
      rintro e w13 ⟨rfl, hM⟩
      obtain ⟨⟨qv3, hqv3⟩, hqf3⟩ := hM.cells (o + 3) (by omega)
      obtain ⟨b3, hSn⟩ := hM.lay E
      rw [show List.length _ = o + 3 by simp [HO.out]] at hSn
      have HS6 := Lib.hid hSn
      clear hM hSn
      by_cases h252 : o = 252
      · subst h252
        go_upto_if 85 with fail
        go_step
        exact HFULL.out _ _ _ _ _ _ _ _ (fun F w h => HRET.out F w h) (by simp [HO.out]) HS6.out ⟨rfl, rfl, rfl, rfl, rfl, rfl, rfl, rfl⟩
      · have h256 : o + 4 < 256 := by have := HO4.out; omega
        have e4 : ((o : Int) + 4 == 0) = false := beq_eq_false_iff_ne.2 (by omega)
        go_wp2_with fail
        have ho4 := HO4.out
        exact ⟨⟨_, _, _, _, _, congrArg (Value.int .u8) (by simp [HO.out]), by simp [HO.out]; omega, by simp [HO.out]; omega, HS6.out⟩, by simp [intOf]; omega⟩
    · have hd : decide ((8 : Int) ≤ (off : Int)) = false := decide_eq_false (by omega)
      go_wp2_with fail
      exact HEND.out _ _ _ ⟨rfl, rfl, rfl, rfl, rfl, rfl, rfl, rfl⟩ ⟨off, rd, a1, a2, out, congrArg (Value.int .u8) (by rw [HO.out]), by rw [HO.out]; exact hol, by rw [HO.out]; exact HO4.out, HS.out⟩
end Go.Proofs.YthkklojjpgjiiaaFmt
namespace Go.Proofs.YthkklojjpgjiiaaFmt
open Go.RowKit Go.Extern.Stop Go.Stop Go.Extern

set_option maxRecDepth 100000 in
set_option maxHeartbeats 6400000 in
theorem dl_l2 {w0 wr : World} {D U T S G1 G2 H : Nat} {Z : Option Obj} {A : Option Addr} {n c : Nat} {l : List UInt8} {f0 : Nat → Value} {sy bt bs : Nat → Nat} {R : WRes} {EX : Act → World → Prop} (E : DcE D U T S G1 G2 H sy bt bs) (hn : n ≤ 1000000)
    (u1 u2 u4 u9 u10 u11 u12 u13 u14 u15 u16 u17 u18 u19 u20 u21 u22 u23 u24 u25 u26 u27 u28 u29 u30 u31 u32 u33 u34 u35 u36 u37 u38 u39 u40 u41 u42 u43 u44 u45 u46 u47 u48 u49 u50 u51 u52 u53 u54 u55 u56 u57 u58 u59 u60 u61 u62 u63 u64 u65 u66 u67 u68 u69 u70 u71 u72 u73 u74 u75 u76 u77 u78 u79 u80 u81 u82 u83 u84 u85 u86 u87 u88 u89 u90 u91 u92 u93 u94 u95 u96 u97 u98 u99 u100 u101 u102 u103 u104 u105 u106 u107 u108 u109 u110 u111 u112 u113 u114 u115 u116 u117 u118 u119 u120 u121 u122 u123 u124 u125 u126 u127 u128 u129 u130 u131 u132 u133 u134 u135 u136 u137 u138 u139 u140 u141 u142 u143 u144 u145 u146 u147 u148 u149 u150 u151 u152 u153 u154 u155 u156 u157 u158 u159 u160 u161 u162 u163 u164 u165 u166 u167 u168 u169 u170 u171 u172 u173 u174 u175 u176 u177 u178 u179 u180 u181 u182 u183 u184 u185 u186 u187 u188 u189 u190 u191 u192 u193 u194 u195 u196 u197 u198 u199 u200 u201 u202 u203 u204 u205 u206 u207 u208 u209 u210 u211 u212 u213 u214 u215 u216 u217 u218 u219 u220 u221 u222 u223 u224 u225 u226 u227 u228 u229 u230 u231 u232 u233 u234 u235 u236 u237 u238 u239 u240 u241 u242 u243 u244 u245 u246 u247 u248 u249 u250 u251 u252 u253 u254 u255 u256 u257 u258 u259 u260 u261 u262 u263 u264 : Value) (Q : Exit → Act → World → Prop) (hst : DlRel w0 D U T S G1 G2 H Z A n c l f0 sy bt bs R (.int .u8 0) wr)
    (hfull : ∀ off rd a1 a2 out w' F' (Q1 : Exit → Act → World → Prop), (∀ F w, EX F w → Q1 .ret F w) → out.length = 256 → St1 w0 D U T S G1 G2 H Z A n c l f0 sy bt bs R off rd a1 a2 out w' → DlF D U G1 G2 (.int .u8 0) F' → Code.wp Tryf.prog dlX2 Q1 F' w')
    (hret : ∀ F' w', EX F' w' → Q .ret F' w')
    (hend : ∀ F' w' v8, DlF D U G1 G2 v8 F' → DlRel w0 D U T S G1 G2 H Z A n c l f0 sy bt bs R v8 w' → Q (.exit 2) F' w') :
    Code.wp Tryf.prog dlL2 Q ⟨#[.pointer (some ⟨D, 0, none⟩), u1, u2, .pointer (some ⟨D, 514, none⟩), u4, .pointer (some ⟨G1, 0, none⟩), .pointer (some ⟨G2, 0, none⟩), .slice (some ⟨U, 0, none⟩) 256 256, .int .u8 0, u9, u10, u11, u12, u13, u14, u15, u16, u17, u18, u19, u20, u21, u22, u23, u24, u25, u26, u27, u28, u29, u30, u31, u32, u33, u34, u35, u36, u37, u38, u39, u40, u41, u42, u43, u44, u45, u46, u47, u48, u49, u50, u51, u52, u53, u54, u55, u56, u57, u58, u59, u60, u61, u62, u63, u64, u65, u66, u67, u68, u69, u70, u71, u72, u73, u74, u75, u76, u77, u78, u79, u80, u81, u82, u83, u84, u85, u86, u87, u88, u89, u90, u91, u92, u93, u94, u95, u96, u97, u98, u99, u100, u101, u102, u103, u104, u105, u106, u107, u108, u109, u110, u111, u112, u113, u114, u115, u116, u117, u118, u119, u120, u121, u122, u123, u124, u125, u126, u127, u128, u129, u130, u131, u132, u133, u134, u135, u136, u137, u138, u139, u140, u141, u142, u143, u144, u145, u146, u147, u148, u149, u150, u151, u152, u153, u154, u155, u156, u157, u158, u159, u160, u161, u162, u163, u164, u165, u166, u167, u168, u169, u170, u171, u172, u173, u174, u175, u176, u177, u178, u179, u180, u181, u182, u183, u184, u185, u186, u187, u188, u189, u190, u191, u192, u193, u194, u195, u196, u197, u198, u199, u200, u201, u202, u203, u204, u205, u206, u207, u208, u209, u210, u211, u212, u213, u214, u215, u216, u217, u218, u219, u220, u221, u222, u223, u224, u225, u226, u227, u228, u229, u230, u231, u232, u233, u234, u235, u236, u237, u238, u239, u240, u241, u242, u243, u244, u245, u246, u247, u248, u249, u250, u251, u252, u253, u254, u255, u256, u257, u258, u259, u260, u261, u262, u263, u264], []⟩ wr := by
  conv => arg 2; whnf
  have HST := Lib.hid hst
  have HEND := Lib.hid hend
  have HFULL := Lib.hid hfull
  have HRET := Lib.hid hret
  clear hst hend hfull hret
  go_wp2_with fail
  go_loopw [8] (DlRel w0 D U T S G1 G2 H Z A n c l f0 sy bt bs R) (fun v8 _ => 256 - (intOf v8).toNat)
  case atStart => exact HST.out
  case round =>
    obtain ⟨off, rd, a1, a2, out, rfl, hol, ho4, hS⟩ := hrel
    have q1 := hS.offCell
    obtain ⟨o, ho⟩ : ∃ o, out.length = o := ⟨_, rfl⟩
    rw [ho] at hol ho4 ⊢
    have HO := Lib.hid ho
    have HS := Lib.hid hS
    have HO4 := Lib.hid ho4
    clear ho hS ho4
    by_cases h8 : 8 ≤ off
    · have hd : decide ((8 : Int) ≤ (off : Int)) = true := decide_eq_true (by omega)
      go_wp2_with fail
      refine (HS.out.fillFast E hn (by omega)).mono ?_
      rintro e w1 ⟨rfl, off1, rd1, hr32, hoo, hS1⟩
      have HS1 := Lib.hid hS1
      clear hS1 q1
      go_wp2_with fail
      have HO5 := Lib.hid hol
      have HB1 := Lib.hid (E.hbt _ HS1.out.h1)
      refine (st1N E HS1.out (by have h1 := E.hbt _ HS1.out.h1; have h2 := E.hbt _ HS1.out.h2;  omega) (by rw [HO.out]; omega)).mono ?_
      rintro e w10 ⟨rfl, hM⟩
      obtain ⟨⟨qv0, hqv0⟩, hqf0⟩ := hM.cells (o) (by omega)
      obtain ⟨b0, hSn⟩ := hM.lay E
      rw [show List.length _ = o by simp [HO.out]] at hSn
      have HS2 := Lib.hid hSn
      clear hM hSn
      go_wp2_with fail
      refine (st2N E HS2.out (by have h1 := E.hbt _ HS2.out.h1; have h2 := E.hbt _ HS2.out.h2; have h3 := HB1.out; omega) (by have := HO.out; have := HO5.out; simp only [List.length_append, List.length_cons, List.length_nil]; omega)).mono ?_
      rintro e w11 ⟨rfl, hM⟩
      obtain ⟨⟨qv1, hqv1⟩, hqf1⟩ := hM.cells (o + 1) (by omega)
      obtain ⟨b1, hSn⟩ := hM.lay E
      rw [show List.length _ = o + 1 by simp [HO.out]] at hSn
      have HS3 := Lib.hid hSn
      clear hM hSn
      go_wp2_with fail
      refine (HS3.out.fillFast E hn (by omega)).mono ?_
      rintro e w20 ⟨rfl, off2, rd2, hr32b, hoo2, hS4⟩
      have HS4 := Lib.hid hS4
      clear hS4
      go_wp2_with fail
      have HB4 := Lib.hid (E.hbt _ HS4.out.h1)
      refine (st1N E HS4.out (by have h1 := E.hbt _ HS4.out.h1; have h2 := E.hbt _ HS4.out.h2;  omega) (by have := HO.out; have := HO5.out; simp only [List.length_append, List.length_cons, List.length_nil]; omega)).mono ?_
      rintro e w12 ⟨rfl, hM⟩
      obtain ⟨⟨qv2, hqv2⟩, hqf2⟩ := hM.cells (o + 2) (by omega)
      obtain ⟨b2, hSn⟩ := hM.lay E
      rw [show List.length _ = o + 2 by simp [HO.out]] at hSn
      have HS5 := Lib.hid hSn
      clear hM hSn
      go_wp2_with fail
      refine (st2N E HS5.out (by have h1 := E.hbt _ HS5.out.h1; have h2 := E.hbt _ HS5.out.h2; have h3 := HB4.out; omega) (by have := HO.out; have := HO5.out; simp only [List.length_append, List.length_cons, List.length_nil]; omega)).mono ?_
      rintro e w13 ⟨rfl, hM⟩
      obtain ⟨⟨qv3, hqv3⟩, hqf3⟩ := hM.cells (o + 3) (by omega)
      obtain ⟨b3, hSn⟩ := hM.lay E
      rw [show List.length _ = o + 3 by simp [HO.out]] at hSn
      have HS6 := Lib.hid hSn
      clear hM hSn
      by_cases h252 : o = 252
      · subst h252
        go_upto_if 150 with fail
        go_step
        exact HFULL.out _ _ _ _ _ _ _ _ (fun F w h => HRET.out F w h) (by simp [HO.out]) HS6.out ⟨rfl, rfl, rfl, rfl, rfl, rfl, rfl, rfl⟩
      · have h256 : o + 4 < 256 := by have := HO4.out; omega
        have e4 : ((o : Int) + 4 == 0) = false := beq_eq_false_iff_ne.2 (by omega)
        go_wp2_with fail
        have ho4 := HO4.out
        exact ⟨⟨_, _, _, _, _, congrArg (Value.int .u8) (by simp [HO.out]), by simp [HO.out]; omega, by simp [HO.out]; omega, HS6.out⟩, by simp [intOf]; omega⟩
    · have hd : decide ((8 : Int) ≤ (off : Int)) = false := decide_eq_false (by omega)
      go_wp2_with fail
      exact HEND.out _ _ _ ⟨rfl, rfl, rfl, rfl, rfl, rfl, rfl, rfl⟩ ⟨off, rd, a1, a2, out, congrArg (Value.int .u8) (by rw [HO.out]), by rw [HO.out]; exact hol, by rw [HO.out]; exact HO4.out, HS.out⟩
end Go.Proofs.YthkklojjpgjiiaaFmt
