/-
  huff0's setMaxHeight: what is paid too much is given back. Conditions: those of the theorem.
-/
import Derived.Test.YthkklojjpgjiiaaFmtCodeT19
namespace Go.Proofs.YthkklojjpgjiiaaFmt
open Go.RowKit

set_option maxRecDepth 100000 in
set_option maxHeartbeats 6400000 in
theorem mh_l14 {w wr : World} {H G R n M : Nat} {f : Nat → Value} {z c pa sy : Nat → Nat} (hB : NdB n c pa sy) (hn : n ≤ 256) (hM : 5 ≤ M) (hM2 : M ≤ 11) (hG : G < R) (hH : H < R) (hHG : H ≠ G) (hwR : w.heap.size ≤ R)
    {E i : Nat} {y : Int} {l : Nat → Nat} {r : Nat → Option Nat} (hy : y = -(E : Int)) (hi : i < n) (hO : OvI n M E i l (r 1)) (hW : MhW w H G R f (ndV (NV z n c pa sy l)) (rkV r) wr) (Q : Exit → Act → World → Prop)
    (u0 u1 u2 u3 u4 u7 u9 u12 u13 u14 u15 u16 u17 u18 u19 u20 u21 u22 u23 u24 u25 u26 u27 u28 u29 u30 u31 u32 u33 u34 u35 u36 u37 u38 u39 u40 u41 u42 u43 u44 u45 u46 u47 u48 u49 u50 u51 u52 u53 u54 u55 u56 u57 u58 u59 u60 u61 u62 u63 u64 u65 u66 u67 u68 u69 u70 u71 u72 u73 u74 u75 u76 u77 u78 u79 u80 u81 u82 u83 u84 u85 u86 u87 u88 u89 u90 u91 u92 u93 u94 u95 u96 u97 u98 u99 u100 u101 u102 u103 u104 u105 u106 u107 u108 u109 u110 u111 u112 u113 u114 u115 u116 u117 u118 u119 u120 u121 u122 u123 u124 u125 u126 u127 u128 u129 u130 u131 u132 u133 u134 u135 u136 u137 u138 u139 u140 u141 u142 u143 u144 u145 u146 u147 u148 u149 u150 u151 u152 u153 u154 u155 u156 u157 u158 u159 u160 u161 u162 u163 u164 u165 u166 u167 u168 u169 u170 u171 u172 u173 u174 u175 u176 u177 u178 u179 u180 u181 u182 u183 u184 u185 u186 u187 u188 u189 u190 u191 u192 u193 u194 u195 u196 u197 u198 u199 u200 u201 u202 u203 u204 u205 u206 u207 u208 u209 u210 u211 u212 u213 u214 u215 u216 u217 u218 u219 u220 u221 u222 u223 u224 u225 u226 u227 u228 u229 u230 u231 u232 u233 u234 u235 u236 u237 u238 u239 u240 u241 u242 u243 u244 u245 u246 u247 u248 u249 u250 u251 u252 u253 u254 u255 : Value)
    (hend : ∀ F w', (∃ v8 v10 l' r', MhF M G R v8 v10 F ∧ LenOk n M l' ∧ MhW w H G R f (ndV (NV z n c pa sy l')) (rkV r') w') → Q (.exit 14) F w') :
    Code.wp Tryf.prog mhL14 Q ⟨#[u0, u1, u2, u3, u4, .int .u8 (M : Nat), .slice (some ⟨G, 1, none⟩) 512 512, u7, .int .i64 y, u9, .int .u32 (i : Nat), .pointer (some ⟨R, 0, none⟩), u12, u13, u14, u15, u16, u17, u18, u19, u20, u21, u22, u23, u24, u25, u26, u27, u28, u29, u30, u31, u32, u33, u34, u35, u36, u37, u38, u39, u40, u41, u42, u43, u44, u45, u46, u47, u48, u49, u50, u51, u52, u53, u54, u55, u56, u57, u58, u59, u60, u61, u62, u63, u64, u65, u66, u67, u68, u69, u70, u71, u72, u73, u74, u75, u76, u77, u78, u79, u80, u81, u82, u83, u84, u85, u86, u87, u88, u89, u90, u91, u92, u93, u94, u95, u96, u97, u98, u99, u100, u101, u102, u103, u104, u105, u106, u107, u108, u109, u110, u111, u112, u113, u114, u115, u116, u117, u118, u119, u120, u121, u122, u123, u124, u125, u126, u127, u128, u129, u130, u131, u132, u133, u134, u135, u136, u137, u138, u139, u140, u141, u142, u143, u144, u145, u146, u147, u148, u149, u150, u151, u152, u153, u154, u155, u156, u157, u158, u159, u160, u161, u162, u163, u164, u165, u166, u167, u168, u169, u170, u171, u172, u173, u174, u175, u176, u177, u178, u179, u180, u181, u182, u183, u184, u185, u186, u187, u188, u189, u190, u191, u192, u193, u194, u195, u196, u197, u198, u199, u200, u201, u202, u203, u204, u205, u206, u207, u208, u209, u210, u211, u212, u213, u214, u215, u216, u217, u218, u219, u220, u221, u222, u223, u224, u225, u226, u227, u228, u229, u230, u231, u232, u233, u234, u235, u236, u237, u238, u239, u240, u241, u242, u243, u244, u245, u246, u247, u248, u249, u250, u251, u252, u253, u254, u255], []⟩ wr := by
  conv => arg 2; whnf
  have HB := Lib.hid hB
  have HHG := Lib.hid hHG
  have HWR := Lib.hid hwR
  have HO := Lib.hid hO
  have HW := Lib.hid hW
  have HY := Lib.hid hy
  have HEND := Lib.hid hend
  clear hB hHG hwR hO hW hy hend
  go_wp2_with fail
  go_loopw [8, 10] (fun tv iv wr => ∃ (E i : Nat) (y : Int) (l : Nat → Nat) (r : Nat → Option Nat), tv = .int .i64 y ∧ iv = .int .u32 (i : Nat) ∧ i < n ∧ y = -(E : Int) ∧ OvI n M E i l (r 1) ∧ MhW w H G R f (ndV (NV z n c pa sy l)) (rkV r) wr) (fun tv _ _ => (-(intOf tv)).toNat)
  case atStart => exact ⟨E, i, y, l, r, rfl, rfl, hi, HY.out, HO.out, HW.out⟩
  case round =>
    clear HO HW HY
    obtain ⟨E, i, y, l, r, rfl, rfl, hi, hy, hO, hW⟩ := hrel
    have HO := Lib.hid hO
    have HW := Lib.hid hW
    clear hO hW
    have hlm := fun p (hp : p < n) => (HO.out.ok.2 p hp)
    have HLM := Lib.hid hlm
    clear hlm
    by_cases hE : E = 0
    · subst hE
      have hd : decide (y < 0) = false := decide_eq_false (by omega)
      clear hy
      go_wp2_with fail
      exact HEND.out _ _ ⟨_, _, l, r, ⟨rfl, rfl, rfl, rfl, rfl, rfl, rfl⟩, HO.out.ok, HW.out⟩
    · obtain ⟨E', rfl⟩ : ∃ E', E = E' + 1 := ⟨E - 1, by omega⟩
      have hd : decide (y < 0) = true := decide_eq_true (by omega)
      obtain ⟨y2, hy2⟩ : ∃ y2, y + 1 = y2 := ⟨_, rfl⟩
      have HY2 := Lib.hid hy2
      have hyb : -1000 < y := by
        have h1 := HO.out.z
        have h2 := sm_le (f := fun i => if l i = M then 1 else 0) (g := fun _ => 1) (n := n) fun j _ => by show (if l j = M then 1 else 0) ≤ 1; split <;> omega
        rw [sm_const] at h2
        have h3 : zr M l n ≤ n * 1 := h2
        omega
      have hyw : IntKind.i64.wrap (y + 1) = y2 := by rw [IntKind.wrap_i64]; omega
      have HYY := Lib.hid hy
      clear hy hy2
      cases hr1 : r 1 with
      | none =>
        have k1 : wr.cell? ⟨R, 1, none⟩ = some (.int .u32 4042322160) := HW.out.r.cellv 1 (by omega) _ (by unfold rkV; rw [hr1]; rfl)
        have HR1 := Lib.hid hr1
        clear hr1
        have hO1 := HO.out
        rw [HR1.out] at hO1
        have HO1 := Lib.hid hO1
        clear hO1
        obtain ⟨w0, hw0⟩ : ∃ w0, wr = w0 := ⟨_, rfl⟩
        have HW0 := Lib.hid hw0
        clear hw0
        go_wp2_with fail
        go_loopw [10] (fun iv wx => ∃ i' : Nat, iv = .int .u32 (i' : Nat) ∧ i' < n ∧ (∀ j, i' < j → j < n → l j = M) ∧ w0 = wx) (fun iv _ => (intOf iv).toNat)
        case atStart => exact ⟨i, rfl, hi, (HO1.out.no rfl).2, HW0.out.symm⟩
        case round =>
          obtain ⟨i', rfl, hi', hal, rfl⟩ := hrel
          have HAL := Lib.hid hal
          clear hal
          obtain ⟨b1, b2, b3⟩ := HB.out i' hi'
          have hlx := (HLM.out i' hi').2
          have hlx1 := (HLM.out i' hi').1
          have kp : w0.cell? ⟨G, 1 + i', none⟩ = some (.int .u64 (nd (c i') (pa i') (sy i') (l i') : Nat)) := by rw [← HW0.out]; exact HW.out.g.cellv (1 + i') (by omega) _ (NV_at hi')
          obtain ⟨x, hx⟩ : ∃ x, l i' = x := ⟨_, rfl⟩
          rw [hx] at hlx hlx1 kp
          have KN := Lib.hid fun wx (hx : wx.cell? ⟨G, 1 + i', none⟩ = some (.int .u64 (nd (c i') (pa i') (sy i') x : Nat))) => ndNbBits_any (w := wx) hx (by omega) (by omega) (by omega) (by omega)
          have hi5 : (i' : Int) < 512 := by omega
          have HX := Lib.hid hx
          clear hx
          by_cases hxm : (x : Int) = (M : Int)
          · have hd2 : ((x : Int) == (M : Int)) = true := beq_iff_eq.2 hxm
            have hd3 : decide ((x : Int) = (M : Int)) = true := decide_eq_true hxm
            obtain ⟨s1, s2⟩ := HO1.out.scan hi' HAL.out (by rw [HX.out]; omega)
            obtain ⟨i2, hi2⟩ : ∃ i2, i' = i2 + 1 := ⟨i' - 1, by omega⟩
            rw [show i' - 1 = i2 by omega] at s2
            have hsub : (i' : Int) - 1 = (i2 : Nat) := by omega
            have S2 := Lib.hid s2
            have HI2 := Lib.hid hi2
            clear s2 hi2 hxm
            go_wp2_with fail
            refine (KN.out _ kp).mono ?_
            rintro e w9 ⟨rfl, h9⟩
            have h9 := h9.symm
            subst h9
            go_wp2_with fail
            have hi2 := HI2.out
            refine ⟨⟨i2, rfl, by omega, S2.out, trivial⟩, by simp [intOf]; omega⟩
          · have hd2 : ((x : Int) == (M : Int)) = false := beq_eq_false_iff_ne.2 hxm
            have hd3 : decide ((x : Int) = (M : Int)) = false := decide_eq_false hxm
            obtain ⟨s1, s2, s3⟩ := HO1.out.stepN (by omega) hi' HAL.out (by rw [HX.out]; omega)
            obtain ⟨p, hp⟩ : ∃ p, i' + 1 = p := ⟨_, rfl⟩
            rw [hp] at s1 s2 s3
            obtain ⟨b4, b5, b6⟩ := HB.out p s1
            have kq : w0.cell? ⟨G, 1 + p, none⟩ = some (.int .u64 (nd (c p) (pa p) (sy p) M : Nat)) := by rw [← HW0.out, ← s2]; exact HW.out.g.cellv (1 + p) (by omega) _ (NV_at s1)
            have zq : w0.frozen? ⟨G, 1 + p, none⟩ = false := by rw [← HW0.out]; exact HW.out.g.frozen (1 + p)
            have KQ := Lib.hid fun wx (hx : wx.cell? ⟨G, 1 + p, none⟩ = some (.int .u64 (nd (c p) (pa p) (sy p) M : Nat))) => ndNbBits_any (w := wx) hx (by omega) (by omega) (by omega) (by omega)
            have KS := Lib.hid fun wx (hx : wx.cell? ⟨G, 1 + p, none⟩ = some (.int .u64 (nd (c p) (pa p) (sy p) M : Nat))) (hf : wx.frozen? ⟨G, 1 + p, none⟩ = false) => ndSetNbBits_any (w := wx) hx hf (by omega) (by omega) (by omega) (by omega) (M - 1) (by omega)
            have hW0 := HW.out
            rw [HW0.out] at hW0
            have hst := ((hW0.drewN 1).setG hG HHG.out (1 + p) (.int .u64 (nd (c p) (pa p) (sy p) (M - 1) : Nat)) (NV_set s1 (M - 1)))
            have S3 := Lib.hid s3
            have HST := Lib.hid hst
            have hpi : (i' : Int) + 1 = (p : Nat) := by omega
            have hp5 : (p : Int) < 512 := by omega
            have hmi : (M : Int) - 1 = ((M - 1 : Nat) : Int) := by omega
            have KN1 := Lib.hid (KQ.out (w0.drewN 1) kq)
            clear s2 s3 hst hW0 hxm hp
            go_wp2_with fail
            refine (KN.out _ kp).mono ?_
            rintro e w9 ⟨rfl, h9⟩
            have h9 := h9.symm
            subst h9
            go_upto_region 55 with fail
            refine wp_region_noPanic ?_
            refine wp_region_quiet_tail 10 (by kernel_rfl) (by kernel_rfl) ?_
            simp only [List.take_succ_cons, List.take_zero, List.drop_succ_cons, List.drop_zero]
            repeat (go_big_quiet_step (exact KN1.out _))
            refine wpQuiet_nil ?_
            go_wp2_with fail
            refine (KS.out (w0.drewN 1) kq zq).mono ?_
            rintro e w4 ⟨rfl, rfl⟩
            generalize World.setCell _ _ _ = w4 at HST ⊢
            have k4 := HST.out.r.cell 1 (by omega)
            have z4 := HST.out.r.frozen 1
            have hst2 := HST.out.setR HWR.out hH hG 1 (.int .u32 (p : Nat)) (rkV_upd r 1 (some p))
            have HST2 := Lib.hid hst2
            clear hst2 kp kq zq KN1 KN KS KQ
            go_wp2_with fail
            refine NoPanic.normal ?_
            go_wp2_with fail
            refine ⟨⟨E', i', y2, _, updO r 1 (some p), rfl, rfl, hi', by have := HY2.out; have := HYY.out; omega, by rw [show updO r 1 (some p) 1 = some p from if_pos rfl]; exact S3.out, HST2.out⟩, by have := HY2.out; have := HYY.out; simp [intOf]; omega⟩
      | some q =>
        obtain ⟨s1, s2, s3⟩ := OvI.stepS (hr1 ▸ HO.out) (by omega)
        have hq1 := (HO.out.so q hr1).1
        have k1 : wr.cell? ⟨R, 1, none⟩ = some (.int .u32 (q : Nat)) := HW.out.r.cellv 1 (by omega) _ (by unfold rkV; rw [hr1]; rfl)
        have z1 := HW.out.r.frozen 1
        have hqb : ((q : Int) == 4042322160) = false := by rw [beq_eq_false_iff_ne]; omega
        have hqb2 : decide ((q : Int) = 4042322160) = false := decide_eq_false (by omega)
        obtain ⟨p, hp⟩ : ∃ p, q + 1 = p := ⟨_, rfl⟩
        rw [hp] at s1 s2 s3
        obtain ⟨b1, b2, b3⟩ := HB.out p s1
        have kp : wr.cell? ⟨G, 1 + p, none⟩ = some (.int .u64 (nd (c p) (pa p) (sy p) M : Nat)) := by rw [← s2]; exact HW.out.g.cellv (1 + p) (by omega) _ (NV_at s1)
        have zp := HW.out.g.frozen (1 + p)
        have KN := Lib.hid fun wx (hx : wx.cell? ⟨G, 1 + p, none⟩ = some (.int .u64 (nd (c p) (pa p) (sy p) M : Nat))) => ndNbBits_any (w := wx) hx (by omega) (by omega) (by omega) (by omega)
        have KS := Lib.hid fun wx (hx : wx.cell? ⟨G, 1 + p, none⟩ = some (.int .u64 (nd (c p) (pa p) (sy p) M : Nat))) (hf : wx.frozen? ⟨G, 1 + p, none⟩ = false) => ndSetNbBits_any (w := wx) hx hf (by omega) (by omega) (by omega) (by omega) (M - 1) (by omega)
        have hst := ((HW.out.drewN 1).setG hG HHG.out (1 + p) (.int .u64 (nd (c p) (pa p) (sy p) (M - 1) : Nat)) (NV_set s1 (M - 1)))
        have S2 := Lib.hid s2
        have S3 := Lib.hid s3
        have HST := Lib.hid hst
        have hpi : (q : Int) + 1 = (p : Nat) := by omega
        have hp5 : (p : Int) < 512 := by omega
        have hmi : (M : Int) - 1 = ((M - 1 : Nat) : Int) := by omega
        have KN1 := Lib.hid (KN.out (wr.drewN 1) kp)
        have HR1 := Lib.hid hr1
        clear s2 s3 hst hr1
        go_upto_region 58 with fail
        refine wp_region_noPanic ?_
        refine wp_region_quiet_tail 12 (by kernel_rfl) (by kernel_rfl) ?_
        simp only [List.take_succ_cons, List.take_zero, List.drop_succ_cons, List.drop_zero]
        repeat (go_big_quiet_step (exact KN1.out _))
        refine wpQuiet_nil ?_
        go_wp2_with fail
        refine (KS.out (wr.drewN 1) kp zp).mono ?_
        rintro e w4 ⟨rfl, rfl⟩
        generalize World.setCell _ _ _ = w4 at HST ⊢
        have k4 := HST.out.r.cellv 1 (by omega) (.int .u32 (q : Nat)) (by unfold rkV; rw [HR1.out]; rfl)
        have z4 := HST.out.r.frozen 1
        have hst2 := HST.out.setR HWR.out hH hG 1 (.int .u32 (p : Nat)) (rkV_upd r 1 (some p))
        have HST2 := Lib.hid hst2
        clear hst2 kp zp KN1 KN KS k1 z1
        go_wp2_with fail
        refine NoPanic.normal ?_
        go_wp2_with fail
        refine ⟨⟨E', i, y2, _, updO r 1 (some p), rfl, rfl, hi, by have := HY2.out; have := HYY.out; omega, by rw [show updO r 1 (some p) 1 = some p from if_pos rfl]; exact S3.out, HST2.out⟩, by have := HY2.out; have := HYY.out; simp [intOf]; omega⟩
end Go.Proofs.YthkklojjpgjiiaaFmt
