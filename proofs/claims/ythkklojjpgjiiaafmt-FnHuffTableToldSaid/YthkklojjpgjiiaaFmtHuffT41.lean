/-
  fse.decompress: the last loop's relation, its measure, its ends. Definitions and plain lemmas.
  fse.decompress: plain facts for its last loop. Conditions: those of each.
  fse.decompress: the limit's test. Conditions: those of each.
-/
import Derived.Test.YthkklojjpgjiiaaFmtHuffT34
import Derived.Test.YthkklojjpgjiiaaFmtHuffT36
import Derived.Test.YthkklojjpgjiiaaFmtHuffT35
import Derived.Test.YthkklojjpgjiiaaFmtHuffT37
import Derived.Test.YthkklojjpgjiiaaFmtHuffT38
import Derived.Test.YthkklojjpgjiiaaFmtHuffT39
import Derived.Test.YthkklojjpgjiiaaFmtHuffT40
namespace Go.Proofs.YthkklojjpgjiiaaFmt
open Go.RowKit Go.Extern.Stop Go.Stop Go.Extern

/-- the loop's head: the reader still has bits, or more were asked for than there are -/
def LastRel (w0 : World) (D U T S G1 G2 H oH NH : Nat) (TH : TypeId) (fh0 : Nat → Value) (A : Option Addr) (n c : Nat) (l : List UInt8) (f0 : Nat → Value) (sy bt bs : Nat → Nat) (R : WRes) (wr : World) : Prop :=
  ∃ (v : Value) (out : List Int), out.length % 2 = 0 ∧ out.length ≤ 254 ∧
    ((∃ off rd a1 a2, Fin w0 D U T S G1 G2 H oH NH TH fh0 A n c l f0 sy bt bs off rd a1 a2 out v wr ∧ SR sy bt bs l (leftB off rd) a1 a2 out R) ∨
     (R = .open_ ∧ ∃ rd a1 a2, FinD w0 D U T S G1 G2 H oH NH TH fh0 A n c l f0 sy bt bs rd a1 a2 out v wr))
/-- how many bytes are put out, read off the scratch -/
def outLen (D : Nat) (w : World) : Nat := match w.cell? ⟨D, 526, none⟩ with | some (.slice _ n _) => n | _ => 0
theorem Fin.outLen {w0 wr : World} {D U T S G1 G2 H oH NH : Nat} {TH : TypeId} {fh0 : Nat → Value} {A : Option Addr} {n c off rd : Nat} {l : List UInt8} {f0 : Nat → Value} {sy bt bs : Nat → Nat} {a1 a2 : Nat} {out : List Int} {v : Value} (h : Fin w0 D U T S G1 G2 H oH NH TH fh0 A n c l f0 sy bt bs off rd a1 a2 out v wr) : outLen D wr = out.length := by
  unfold Go.Proofs.YthkklojjpgjiiaaFmt.outLen
  rw [h.c526, h.ho.1]
theorem FinD.outLen {w0 wr : World} {D U T S G1 G2 H oH NH : Nat} {TH : TypeId} {fh0 : Nat → Value} {A : Option Addr} {n c rd : Nat} {l : List UInt8} {f0 : Nat → Value} {sy bt bs : Nat → Nat} {a1 a2 : Nat} {out : List Int} {v : Value} (h : FinD w0 D U T S G1 G2 H oH NH TH fh0 A n c l f0 sy bt bs rd a1 a2 out v wr) : outLen D wr = out.length := by
  unfold Go.Proofs.YthkklojjpgjiiaaFmt.outLen
  rw [h.c526, h.ho.1]
/-- the loop's end, ahead of close -/
def LastEnd (w0 : World) (D U H oH NH : Nat) (TH : TypeId) (fh0 : Nat → Value) (A : Option Addr) (n c : Nat) (l : List UInt8) (f0 : Nat → Value) (R : WRes) (wr : World) : Prop :=
  Only (fun k => k = D ∨ k = U ∨ k = H) w0 wr ∧ HKeep H oH NH TH fh0 wr ∧ ∃ v,
    ((∃ off rd, BrIn wr D 98 534 514 A n c l (updV f0 526 v) off rd wr ∧ ((∃ out, R = .good out ∧ OutA wr H oH NH TH fh0 v out) ∨ (R = .refused ∧ ∃ A' n' c', v = .slice A' n' c' ∧ 255 < n'))) ∨
     (R = .open_ ∧ ∃ rd, BrDead wr D 98 534 514 A n c (updV f0 526 v) rd wr))
end Go.Proofs.YthkklojjpgjiiaaFmt
namespace Go.Proofs.YthkklojjpgjiiaaFmt
open Go.RowKit Go.Extern.Stop Go.Stop Go.Extern

/-- the specification's end where the reader has no bits left and the next state wants some -/
theorem SR.fin {sy bt bs : Nat → Nat} {l : List UInt8} {L a b : Nat} {out : List Int} {R : WRes} (h : SR sy bt bs l L a b out R) (hl : out.length ≤ 255) (h0 : L = 0 ∧ 0 < bt a) :
    (out.length + 2 ≤ 255 ∧ R = .good (out ++ [(sy a : Int), (sy b : Int)])) ∨ (255 < out.length + 2 ∧ R = .refused) := by
  obtain ⟨rfl, hb⟩ := h0
  cases h with
  | full h => omega
  | next h hb2 hr => omega
  | over h hb2 hL => omega
  | end_ h hb2 h2 => exact .inl ⟨h2, rfl⟩
  | long h hb2 h2 => exact .inr ⟨h2, rfl⟩
theorem SR.ov {sy bt bs : Nat → Nat} {l : List UInt8} {L a b : Nat} {out : List Int} {R : WRes} (h : SR sy bt bs l L a b out R) (hl : out.length ≤ 255) (hb : L < bt a) (h0 : 0 < L) : R = .open_ := by
  cases h with
  | full h => omega
  | next h hb2 hr => omega
  | over h hb2 hL => rfl
  | end_ h hb2 h2 => omega
  | long h hb2 h2 => omega
theorem SR.mustFull {sy bt bs : Nat → Nat} {l : List UInt8} {L a b : Nat} {out : List Int} {R : WRes} (h : SR sy bt bs l L a b out R) (hl : 255 < out.length) : R = .refused := by
  cases h with
  | full h => rfl
  | next h hb2 hr => omega
  | over h hb2 hL => omega
  | end_ h hb2 h2 => omega
  | long h hb2 h2 => omega
/-- the program's bits always come to some end -/
theorem SR.some (sy bt bs : Nat → Nat) (l : List UInt8) : ∀ (k L a b : Nat) (out : List Int), 256 - out.length ≤ k → ∃ R, SR sy bt bs l L a b out R
  | 0, L, a, b, out, h => ⟨_, .full (by omega)⟩
  | k + 1, L, a, b, out, h => by
    by_cases hf : 255 < out.length
    · exact ⟨_, .full hf⟩
    · by_cases hb : bt a ≤ L
      · obtain ⟨R, hR⟩ := SR.some sy bt bs l k (L - bt a) b (bs a + numF l (L - bt a) (bt a)) (out ++ [(sy a : Int)]) (by simp; omega)
        exact ⟨R, .next (by omega) hb hR⟩
      · by_cases h0 : L = 0
        · subst h0
          by_cases h2 : out.length + 2 ≤ 255
          · exact ⟨_, .end_ (by omega) (by omega) h2⟩
          · exact ⟨_, .long (by omega) (by omega) (by omega)⟩
        · exact ⟨_, .over (by omega) (by omega) (by omega)⟩
section
variable {w0 wr : World} {D U T S G1 G2 H oH NH : Nat} {TH : TypeId} {fh0 : Nat → Value} {A : Option Addr} {n c off rd : Nat} {l : List UInt8} {f0 : Nat → Value} {sy bt bs : Nat → Nat} {a1 a2 : Nat} {out : List Int} {v : Value}
theorem Fin.only (h : Fin w0 D U T S G1 G2 H oH NH TH fh0 A n c l f0 sy bt bs off rd a1 a2 out v wr) : Only (fun k => k = D ∨ k = U ∨ k = H) w0 wr := by
  obtain ⟨Z, hm⟩ := h.hm
  exact hm.2.2.2.2.2.2.1
theorem FinD.only (h : FinD w0 D U T S G1 G2 H oH NH TH fh0 A n c l f0 sy bt bs rd a1 a2 out v wr) : Only (fun k => k = D ∨ k = U ∨ k = H) w0 wr := by
  obtain ⟨Z, hm⟩ := h.hm
  exact hm.2.2.2.2.2.2.1
theorem Fin.c527 (h : Fin w0 D U T S G1 G2 H oH NH TH fh0 A n c l f0 sy bt bs off rd a1 a2 out v wr) (h527 : f0 527 = .int .i64 255) : wr.cell? ⟨D, 527, none⟩ = some (.int .i64 255) := by
  obtain ⟨f, val, hr, hk, hs, _⟩ := h.hb
  exact hr.cellv 527 (by omega) _ (by rw [hk 527 (by omega) (by omega) (by omega), updV_ne _ _ _ _ (by omega)]; exact h527)
theorem FinD.c527 (h : FinD w0 D U T S G1 G2 H oH NH TH fh0 A n c l f0 sy bt bs rd a1 a2 out v wr) (h527 : f0 527 = .int .i64 255) : wr.cell? ⟨D, 527, none⟩ = some (.int .i64 255) := by
  obtain ⟨f, val, hr, hk, hs, _⟩ := h.hb
  exact hr.cellv 527 (by omega) _ (by rw [hk 527 (by omega) (by omega) (by omega), updV_ne _ _ _ _ (by omega)]; exact h527)
theorem Fin.end_ (h : Fin w0 D U T S G1 G2 H oH NH TH fh0 A n c l f0 sy bt bs off rd a1 a2 out v wr) {R : WRes} (hR : R = .good out ∨ (R = .refused ∧ 255 < out.length)) : LastEnd w0 D U H oH NH TH fh0 A n c l f0 R wr := by
  refine ⟨h.only, h.ho.keepH, v, .inl ⟨off, rd, h.hb, ?_⟩⟩
  rcases hR with e | ⟨e, h2⟩
  · exact .inl ⟨out, e, h.ho⟩
  · exact .inr ⟨e, _, _, _, h.ho.1, h2⟩
theorem FinD.end_ (h : FinD w0 D U T S G1 G2 H oH NH TH fh0 A n c l f0 sy bt bs rd a1 a2 out v wr) : LastEnd w0 D U H oH NH TH fh0 A n c l f0 .open_ wr :=
  ⟨h.only, h.ho.keepH, v, .inr ⟨rfl, rd, h.hb⟩⟩
theorem outLen_of {w : World} {D : Nat} {A' : Option Addr} {n' c' : Nat} (h : w.cell? ⟨D, 526, none⟩ = some (.slice A' n' c')) : outLen D w = n' := by
  unfold outLen
  rw [h]
end
end Go.Proofs.YthkklojjpgjiiaaFmt
namespace Go.Proofs.YthkklojjpgjiiaaFmt
open Go.RowKit Go.Extern.Stop Go.Stop Go.Extern

noncomputable def dlT1 : Code := cR (cR (cR dlB))
noncomputable def dlT2 : Code := cR (cR (cR (cR (cR dlB))))
set_option maxRecDepth 100000 in
set_option maxHeartbeats 6400000 in
theorem dl_tail (F : Interp) {w0 wr : World} (hF : F.answers w0.tape) {D U G1 G2 H oH NH n' c' : Nat} {TH : TypeId} {fh0 : Nat → Value} {A' : Option Addr} {R : WRes} {v8 : Value} (h526 : wr.cell? ⟨D, 526, none⟩ = some (.slice A' n' c')) (h527 : wr.cell? ⟨D, 527, none⟩ = some (.int .i64 255)) (hon : Only (fun k => k = D ∨ k = U ∨ k = H) w0 wr) (hkp : HKeep H oH NH TH fh0 wr) (hR : 255 ≤ n' → R = .refused ∨ R = .open_)
    (u1 u2 u4 u9 u10 u11 u12 u13 u14 u15 u16 u17 u18 u19 u20 u21 u22 u23 u24 u25 u26 u27 u28 u29 u30 u31 u32 u33 u34 u35 u36 u37 u38 u39 u40 u41 u42 u43 u44 u45 u46 u47 u48 u49 u50 u51 u52 u53 u54 u55 u56 u57 u58 u59 u60 u61 u62 u63 u64 u65 u66 u67 u68 u69 u70 u71 u72 u73 u74 u75 u76 u77 u78 u79 u80 u81 u82 u83 u84 u85 u86 u87 u88 u89 u90 u91 u92 u93 u94 u95 u96 u97 u98 u99 u100 u101 u102 u103 u104 u105 u106 u107 u108 u109 u110 u111 u112 u113 u114 u115 u116 u117 u118 u119 u120 u121 u122 u123 u124 u125 u126 u127 u128 u129 u130 u131 u132 u133 u134 u135 u136 u137 u138 u139 u140 u141 u142 u143 u144 u145 u146 u147 u148 u149 u150 u151 u152 u153 u154 u155 u156 u157 u158 u159 u160 u161 u162 u163 u164 u165 u166 u167 u168 u169 u170 u171 u172 u173 u174 u175 u176 u177 u178 u179 u180 u181 u182 u183 u184 u185 u186 u187 u188 u189 u190 u191 u192 u193 u194 u195 u196 u197 u198 u199 u200 u201 u202 u203 u204 u205 u206 u207 u208 u209 u210 u211 u212 u213 u214 u215 u216 u217 u218 u219 u220 u221 u222 u223 u224 u225 u226 u227 u228 u229 u230 u231 u232 u233 u234 u235 u236 u237 u238 u239 u240 u241 u242 u243 u244 u245 u246 u247 u248 u249 u250 u251 u252 u253 u254 u255 u256 u257 u258 u259 u260 u261 u262 u263 u264 : Value) (Q : Exit → Act → World → Prop) (hret : ∀ F' w', DlErrK w0 D U H oH NH TH fh0 R F' w' → Q .ret F' w') (hK : ∀ F' q, n' < 255 → DlF D U G1 G2 v8 F' → Q .normal F' (wr.drewN q)) :
    Code.wp Tryf.prog dlT2 Q ⟨#[.pointer (some ⟨D, 0, none⟩), u1, u2, .pointer (some ⟨D, 514, none⟩), u4, .pointer (some ⟨G1, 0, none⟩), .pointer (some ⟨G2, 0, none⟩), .slice (some ⟨U, 0, none⟩) 256 256, v8, u9, u10, u11, u12, u13, u14, u15, u16, u17, u18, u19, u20, u21, u22, u23, u24, u25, u26, u27, u28, u29, u30, u31, u32, u33, u34, u35, u36, u37, u38, u39, u40, u41, u42, u43, u44, u45, u46, u47, u48, u49, u50, u51, u52, u53, u54, u55, u56, u57, u58, u59, u60, u61, u62, u63, u64, u65, u66, u67, u68, u69, u70, u71, u72, u73, u74, u75, u76, u77, u78, u79, u80, u81, u82, u83, u84, u85, u86, u87, u88, u89, u90, u91, u92, u93, u94, u95, u96, u97, u98, u99, u100, u101, u102, u103, u104, u105, u106, u107, u108, u109, u110, u111, u112, u113, u114, u115, u116, u117, u118, u119, u120, u121, u122, u123, u124, u125, u126, u127, u128, u129, u130, u131, u132, u133, u134, u135, u136, u137, u138, u139, u140, u141, u142, u143, u144, u145, u146, u147, u148, u149, u150, u151, u152, u153, u154, u155, u156, u157, u158, u159, u160, u161, u162, u163, u164, u165, u166, u167, u168, u169, u170, u171, u172, u173, u174, u175, u176, u177, u178, u179, u180, u181, u182, u183, u184, u185, u186, u187, u188, u189, u190, u191, u192, u193, u194, u195, u196, u197, u198, u199, u200, u201, u202, u203, u204, u205, u206, u207, u208, u209, u210, u211, u212, u213, u214, u215, u216, u217, u218, u219, u220, u221, u222, u223, u224, u225, u226, u227, u228, u229, u230, u231, u232, u233, u234, u235, u236, u237, u238, u239, u240, u241, u242, u243, u244, u245, u246, u247, u248, u249, u250, u251, u252, u253, u254, u255, u256, u257, u258, u259, u260, u261, u262, u263, u264], []⟩ wr := by
  conv => arg 2; whnf
  have HRET := Lib.hid hret
  have HK := Lib.hid hK
  have HR := Lib.hid hR
  have HF := Lib.hid hF
  have HON := Lib.hid hon
  clear hret hK hR hF hon
  by_cases h255 : 255 ≤ n'
  · have hd : decide ((255 : Int) ≤ (n' : Int)) = true := decide_eq_true (by omega)
    have HRF := Lib.hid (HR.out h255)
    go_upto_region 43 with fail
    go_quiet (fail)
    generalize hw4 : World.drewN wr _ = w4
    have hon4 := HON.out.drewN nq
    rw [hw4] at hon4
    have k526 : w4.cell? ⟨D, 526, none⟩ = some (.slice A' n' c') := by rw [← hw4]; exact h526
    have k527 : w4.cell? ⟨D, 527, none⟩ = some (.int .i64 255) := by rw [← hw4]; exact h527
    have hkp4 : HKeep H oH NH TH fh0 w4 := by rw [← hw4]; exact hkp
    have HKP4 := Lib.hid hkp4
    have HON5 := Lib.hid hon4
    have KJ := Lib.hid (errK HF.out n' 255 (w4.drewN 1) (hon4.tape) (w4.heap.size) rfl)
    clear h526 h527 hon4 hw4 hkp4
    go_upto_region 44 with fail
    refine wp_region_quiet_tail 11 (by kernel_rfl) (by kernel_rfl) ?_
    simp only [List.take_succ_cons, List.take_zero, List.drop_succ_cons, List.drop_zero]
    repeat (go_big_quiet_step (fail))
    refine wpQuiet_nil ?_
    go_wp2_with fail
    refine KJ.out.mono ?_
    rintro e w5 he
    obtain ⟨⟨b, s, rfl, hc⟩, hon⟩ := errE_of he
    have HCC := Lib.hid hc
    have HON6 := Lib.hid hon
    clear he hc hon
    go_wp2_with fail
    exact HRET.out _ _ ⟨⟨rfl, rfl, b, s, rfl, HCC.out, HRF.out, ((HON5.out.drewN 1).alloc _).trans (HON6.out.mono (fun _ h => h.elim))⟩, HKP4.out.only ((((Only.refl (fun _ => False) w4).drewN 1).alloc _).trans HON6.out) (fun e => e)⟩
  · have hd : decide ((255 : Int) ≤ (n' : Int)) = false := decide_eq_false (by omega)
    go_upto_region 43 with fail
    go_quiet (fail)
    go_wp2_with fail
    exact HK.out _ _ (by omega) ⟨rfl, rfl, rfl, rfl, rfl, rfl, rfl, rfl⟩
end Go.Proofs.YthkklojjpgjiiaaFmt
