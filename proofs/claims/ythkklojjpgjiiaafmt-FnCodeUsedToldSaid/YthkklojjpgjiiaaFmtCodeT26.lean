/-
  huff0's setMaxHeight: what is owed is paid back. Conditions: those of each.
-/
import Derived.Test.YthkklojjpgjiiaaFmtCodeT25
namespace Go.Proofs.YthkklojjpgjiiaaFmt
open Go.RowKit

set_option maxRecDepth 100000 in
set_option maxHeartbeats 6400000 in
theorem mh_r8 {w wr : World} {H G R n M : Nat} {f : Nat → Value} {z c pa sy : Nat → Nat} (hB : NdB n c pa sy) (hn : n ≤ 256) (hM : 5 ≤ M) (hM2 : M ≤ 11) (hG : G < R) (hH : H < R) (hHG : H ≠ G) (hwR : w.heap.size ≤ R) (hn2 : n ≤ 2 ^ M)
    {T i : Nat} {l : Nat → Nat} {r : Nat → Option Nat} (hP : PayI n M T i l r) (hW : MhW w H G R f (ndV (NV z n c pa sy l)) (rkV r) wr) (Q : Exit → Act → World → Prop)
    (u0 u1 u2 u3 u4 u7 u9 u12 u13 u14 u15 u16 u17 u18 u19 u20 u21 u22 u23 u24 u25 u26 u27 u28 u29 u30 u31 u32 u33 u34 u35 u36 u37 u38 u39 u40 u41 u42 u43 u44 u45 u46 u47 u48 u49 u50 u51 u52 u53 u54 u55 u56 u57 u58 u59 u60 u61 u62 u63 u64 u65 u66 u67 u68 u69 u70 u71 u72 u73 u74 u75 u76 u77 u78 u79 u80 u81 u82 u83 u84 u85 u86 u87 u88 u89 u90 u91 u92 u93 u94 u95 u96 u97 u98 u99 u100 u101 u102 u103 u104 u105 u106 u107 u108 u109 u110 u111 u112 u113 u114 u115 u116 u117 u118 u119 u120 u121 u122 u123 u124 u125 u126 u127 u128 u129 u130 u131 u132 u133 u134 u135 u136 u137 u138 u139 u140 u141 u142 u143 u144 u145 u146 u147 u148 u149 u150 u151 u152 u153 u154 u155 u156 u157 u158 u159 u160 u161 u162 u163 u164 u165 u166 u167 u168 u169 u170 u171 u172 u173 u174 u175 u176 u177 u178 u179 u180 u181 u182 u183 u184 u185 u186 u187 u188 u189 u190 u191 u192 u193 u194 u195 u196 u197 u198 u199 u200 u201 u202 u203 u204 u205 u206 u207 u208 u209 u210 u211 u212 u213 u214 u215 u216 u217 u218 u219 u220 u221 u222 u223 u224 u225 u226 u227 u228 u229 u230 u231 u232 u233 u234 u235 u236 u237 u238 u239 u240 u241 u242 u243 u244 u245 u246 u247 u248 u249 u250 u251 u252 u253 u254 u255 : Value)
    (hend : ∀ F w', (∃ (y : Int) (E i : Nat) (l : Nat → Nat) (r : Nat → Option Nat), MhF M G R (.int .i64 y) (.int .u32 (i : Nat)) F ∧ y = -(E : Int) ∧ i < n ∧ OvI n M E i l (r 1) ∧ MhW w H G R f (ndV (NV z n c pa sy l)) (rkV r) w') → Q (.exit 8) F w')
    (hK : ∀ F w', (∃ v8, MhF M G R v8 (.int .u32 (i : Nat)) F ∧ MhP w H G R n M f z c pa sy i F w' ∧ (intOf v8).toNat < T) → Q .normal F w') :
    Code.wp Tryf.prog mhB8 Q ⟨#[u0, u1, u2, u3, u4, .int .u8 (M : Nat), .slice (some ⟨G, 1, none⟩) 512 512, u7, .int .i64 (T : Nat), u9, .int .u32 (i : Nat), .pointer (some ⟨R, 0, none⟩), u12, u13, u14, u15, u16, u17, u18, u19, u20, u21, u22, u23, u24, u25, u26, u27, u28, u29, u30, u31, u32, u33, u34, u35, u36, u37, u38, u39, u40, u41, u42, u43, u44, u45, u46, u47, u48, u49, u50, u51, u52, u53, u54, u55, u56, u57, u58, u59, u60, u61, u62, u63, u64, u65, u66, u67, u68, u69, u70, u71, u72, u73, u74, u75, u76, u77, u78, u79, u80, u81, u82, u83, u84, u85, u86, u87, u88, u89, u90, u91, u92, u93, u94, u95, u96, u97, u98, u99, u100, u101, u102, u103, u104, u105, u106, u107, u108, u109, u110, u111, u112, u113, u114, u115, u116, u117, u118, u119, u120, u121, u122, u123, u124, u125, u126, u127, u128, u129, u130, u131, u132, u133, u134, u135, u136, u137, u138, u139, u140, u141, u142, u143, u144, u145, u146, u147, u148, u149, u150, u151, u152, u153, u154, u155, u156, u157, u158, u159, u160, u161, u162, u163, u164, u165, u166, u167, u168, u169, u170, u171, u172, u173, u174, u175, u176, u177, u178, u179, u180, u181, u182, u183, u184, u185, u186, u187, u188, u189, u190, u191, u192, u193, u194, u195, u196, u197, u198, u199, u200, u201, u202, u203, u204, u205, u206, u207, u208, u209, u210, u211, u212, u213, u214, u215, u216, u217, u218, u219, u220, u221, u222, u223, u224, u225, u226, u227, u228, u229, u230, u231, u232, u233, u234, u235, u236, u237, u238, u239, u240, u241, u242, u243, u244, u245, u246, u247, u248, u249, u250, u251, u252, u253, u254, u255], []⟩ wr := by
  conv => arg 2; whnf
  have HB := Lib.hid hB
  have HHG := Lib.hid hHG
  have HWR := Lib.hid hwR
  have HP := Lib.hid hP
  have HW := Lib.hid hW
  have HN2 := Lib.hid hn2
  have HEND := Lib.hid hend
  have HK := Lib.hid hK
  clear hB hHG hwR hP hW hend hn2 hK
  by_cases hT : T = 0
  · subst hT
    go_wp2_with fail
    exact HEND.out _ _ ⟨_, 0, i, l, r, ⟨rfl, rfl, rfl, rfl, rfl, rfl, rfl⟩, rfl, HP.out.hi.1, HP.out.done, HW.out⟩
  · have hTz := HP.out.z
    have hzn : zr M l n ≤ n := by
      have h2 := sm_le (f := fun i => if l i = M then 1 else 0) (g := fun _ => 1) (n := n) fun j _ => by show (if l j = M then 1 else 0) ≤ 1; split <;> omega
      rw [sm_const] at h2
      have h3 : zr M l n ≤ n * 1 := h2
      omega
    have hT8 : T < 256 := by omega
    have hT1 : (0 : Int) < (T : Int) := by omega
    have hd : decide ((0 : Int) < (T : Int)) = true := decide_eq_true hT1
    have hlog : T.log2 < 8 := (Nat.log2_lt hT).2 (by omega)
    have hg2 := Nat.log2_self_le hT
    have KB := fun wx => highBit32_any T wx hT (by omega) (T : Int) rfl
    obtain ⟨g, hg⟩ : ∃ g, T.log2 = g := ⟨_, rfl⟩
    rw [hg] at hlog hg2 KB
    have KB1 := Lib.hid KB
    have HG2 := Lib.hid hg2
    clear KB hg hg2 hTz hzn
    go_upto_block 10 with (first | (refine (KB1.out _).mono ?_; rintro e w3 ⟨rfl, rfl⟩) | fail)
    obtain ⟨wq, rfl⟩ : ∃ wq : World, wq = wr := ⟨_, rfl⟩
    go_cut [15, 16, 17, 18, 19] from 118 to 144 (fun v15 _ _ _ _ wx => ∃ b : Nat, v15 = .int .u8 (b : Nat) ∧ 1 ≤ b ∧ b ≤ g + 1 ∧ (b = 1 ∨ ∃ p, r b = some p) ∧ wq = wx)
    case first =>
      go_wp2_with fail
      go_loopw [15] (fun v15 wx => ∃ b : Nat, v15 = .int .u8 (b : Nat) ∧ 1 ≤ b ∧ b ≤ g + 1 ∧ wq = wx) (fun v15 _ => (intOf v15).toNat)
      case atStart => exact ⟨g + 1, rfl, by omega, Nat.le_refl _, rfl⟩
      case round =>
        obtain ⟨b, rfl, hb1, hb2, rfl⟩ := hrel
        by_cases hbe : b = 1
        · subst hbe
          go_wp2_with fail
          go_meet
          exact ⟨1, rfl, Nat.le_refl _, hb2, .inl rfl, rfl⟩
        · have hbi : (1 : Int) < (b : Int) := by omega
          have hd1 : decide ((1 : Int) < (b : Int)) = true := decide_eq_true hbi
          obtain ⟨b', hb'⟩ : ∃ b', b = b' + 1 := ⟨b - 1, by omega⟩
          have hbs : (b : Int) - 1 = (b' : Nat) := by omega
          have hb13 : (b : Int) < 13 := by omega
          have hb13' : (b' : Int) < 13 := by omega
          have k1 : wq.cell? ⟨R, b', none⟩ = some (.int .u32 (rnkN (r b') : Nat)) := HW.out.r.cell b' (by omega)
          have HB' := Lib.hid hb'
          cases hr : r b with
          | none =>
            have k0 : wq.cell? ⟨R, b, none⟩ = some (.int .u32 4042322160) := HW.out.r.cellv b (by omega) _ (by unfold rkV; rw [hr]; rfl)
            obtain ⟨x, hx⟩ : ∃ x, rnkN (r b') = x := ⟨_, rfl⟩
            rw [hx] at k1
            clear hx hr hb' hbe
            go_wp2_with fail
            have hb' := HB'.out
            refine ⟨⟨b', rfl, by omega, by omega, trivial⟩, by simp [intOf]; omega⟩
          | some p =>
            have hps := HP.out.some_lt hb1 hr
            have k0 : wq.cell? ⟨R, b, none⟩ = some (.int .u32 (p : Nat)) := HW.out.r.cellv b (by omega) _ (by unfold rkV; rw [hr]; rfl)
            have hp1 : ((p : Int) == 4042322160) = false := by rw [beq_eq_false_iff_ne]; omega
            have hp2 : decide ((p : Int) = 4042322160) = false := decide_eq_false (by omega)
            have HR0 := Lib.hid hr
            cases hr2 : r b' with
            | none =>
              rw [hr2] at k1
              have k2 : wq.cell? ⟨R, b', none⟩ = some (.int .u32 4042322160) := k1
              clear k1 hr hb' hbe hr2
              go_wp2_with fail
              go_meet
              exact ⟨b, rfl, hb1, hb2, .inr ⟨p, HR0.out⟩, rfl⟩
            | some q =>
              have hqs := HP.out.some_lt (show 1 ≤ b' by omega) hr2
              rw [hr2] at k1
              have k2 : wq.cell? ⟨R, b', none⟩ = some (.int .u32 (q : Nat)) := k1
              have hq1 : ((q : Int) == 4042322160) = false := by rw [beq_eq_false_iff_ne]; omega
              have hq2 : decide ((q : Int) = 4042322160) = false := decide_eq_false (by omega)
              obtain ⟨b1, b2, b3⟩ := HB.out p hps.1
              obtain ⟨b4, b5, b6⟩ := HB.out q hqs.1
              have l1 := (HP.out.ok.2 p hps.1).2
              have l2 := (HP.out.ok.2 q hqs.1).2
              have kp : wq.cell? ⟨G, 1 + p, none⟩ = some (.int .u64 (nd (c p) (pa p) (sy p) (l p) : Nat)) := HW.out.g.cellv (1 + p) (by omega) _ (NV_at hps.1)
              have kq : wq.cell? ⟨G, 1 + q, none⟩ = some (.int .u64 (nd (c q) (pa q) (sy q) (l q) : Nat)) := HW.out.g.cellv (1 + q) (by omega) _ (NV_at hqs.1)
              have KP := Lib.hid (ndCount_any kp (by omega) (by omega) (by omega) (by omega))
              have KQ := Lib.hid (ndCount_any kq (by omega) (by omega) (by omega) (by omega))
              have hp5 : (p : Int) < 512 := by omega
              have hq5 : (q : Int) < 512 := by omega
              obtain ⟨cp, hcp⟩ : ∃ x, c p = x := ⟨_, rfl⟩
              obtain ⟨cq, hcq⟩ : ∃ x, c q = x := ⟨_, rfl⟩
              rw [hcp] at KP b1
              rw [hcq] at KQ b4
              clear k1 hr hb' hbe hr2 hps hqs l1 l2 b2 b3 b5 b6 kp kq hcp hcq
              by_cases hcc : (cp : Int) ≤ 2 * (cq : Int)
              · have hdc : decide ((cp : Int) ≤ 2 * (cq : Int)) = true := decide_eq_true hcc
                go_wp2_with fail
                refine KP.out.mono ?_
                rintro e w3 ⟨rfl, h9⟩
                have h9 := h9.symm
                subst h9
                go_wp2_with fail
                refine KQ.out.mono ?_
                rintro e w3 ⟨rfl, h9⟩
                have h9 := h9.symm
                subst h9
                go_wp2_with fail
                go_meet
                exact ⟨b, rfl, hb1, hb2, .inr ⟨p, HR0.out⟩, rfl⟩
              · have hdc : decide ((cp : Int) ≤ 2 * (cq : Int)) = false := decide_eq_false hcc
                go_wp2_with fail
                refine KP.out.mono ?_
                rintro e w3 ⟨rfl, h9⟩
                have h9 := h9.symm
                subst h9
                go_wp2_with fail
                refine KQ.out.mono ?_
                rintro e w3 ⟨rfl, h9⟩
                have h9 := h9.symm
                subst h9
                go_wp2_with fail
                have hb' := HB'.out
                refine ⟨⟨b', rfl, by omega, by omega, trivial⟩, by simp [intOf]; omega⟩
    case rest =>
      obtain ⟨b0, rfl, hb1, hb2, hb3, rfl⟩ := hcut
      obtain ⟨k0, p0, hk1, hk2, hk3⟩ := HP.out.rank HN2.out (by omega)
      have HK3 := Lib.hid hk3
      have HB3 := Lib.hid hb3
      clear hk3 hb3
      go_upto_block 12 with fail
      obtain ⟨wq, rfl⟩ : ∃ wy : World, wy = wq := ⟨_, rfl⟩
      go_cut [15] from 145 to 154 (fun v15 wx => ∃ (b p : Nat), v15 = .int .u8 (b : Nat) ∧ 1 ≤ b ∧ b < M ∧ r b = some p ∧ (2 ^ (b - 1) ≤ T ∨ ∀ k, 1 ≤ k → k < b → r k = none) ∧ wq = wx)
      case first =>
        go_wp2_with fail
        go_loopw [15] (fun v15 wx => ∃ b : Nat, v15 = .int .u8 (b : Nat) ∧ 1 ≤ b ∧ b < M ∧ (b = b0 ∨ ∀ k, 1 ≤ k → k < b → r k = none) ∧ (b ≤ k0 ∨ ∃ p, r b = some p) ∧ wq = wx) (fun v15 _ => 12 - (intOf v15).toNat)
        case atStart =>
          refine ⟨b0, rfl, hb1, ?_, .inl rfl, ?_, rfl⟩
          · rcases HB3.out with e | ⟨p, e⟩
            · omega
            · exact (HP.out.some_lt hb1 e).2.2
          · rcases HB3.out with e | e
            · left; omega
            · exact .inr e
        case round =>
          obtain ⟨b, rfl, hc1, hc2, hc3, hc4, rfl⟩ := hrel
          have HC3 := Lib.hid hc3
          have HC4 := Lib.hid hc4
          clear hc3 hc4
          have hbi : (b : Int) ≤ 11 := by omega
          have hd1 : decide ((b : Int) ≤ 11) = true := decide_eq_true hbi
          have hb13 : (b : Int) < 13 := by omega
          cases hr : r b with
          | none =>
            have k0c : wq.cell? ⟨R, b, none⟩ = some (.int .u32 4042322160) := HW.out.r.cellv b (by omega) _ (by unfold rkV; rw [hr]; rfl)
            have hlt : b < k0 := by
              rcases HC4.out with e | ⟨p, e⟩
              · by_cases e2 : b = k0
                · rw [e2, HK3.out] at hr; cases hr
                · omega
              · rw [e] at hr; cases hr
            have hall : ∀ k, 1 ≤ k → k < b + 1 → r k = none := by
              intro k h1 h2
              by_cases e : k = b
              · rw [e]; exact hr
              · rcases HC3.out with e2 | e2
                · rcases HB3.out with e3 | ⟨p, e3⟩
                  · omega
                  · rw [← e2, hr] at e3; cases e3
                · exact e2 k h1 (by omega)
            have HALL := Lib.hid hall
            clear hr hall
            go_wp2_with fail
            refine ⟨⟨b + 1, by go_num, by omega, by omega, .inr HALL.out, .inl (by omega), trivial⟩, by simp [intOf]; omega⟩
          | some p =>
            have hps := HP.out.some_lt hc1 hr
            have k0c : wq.cell? ⟨R, b, none⟩ = some (.int .u32 (p : Nat)) := HW.out.r.cellv b (by omega) _ (by unfold rkV; rw [hr]; rfl)
            have hp1 : ((p : Int) == 4042322160) = false := by rw [beq_eq_false_iff_ne]; omega
            have hp2 : decide ((p : Int) = 4042322160) = false := decide_eq_false (by omega)
            have hor : 2 ^ (b - 1) ≤ T ∨ ∀ k, 1 ≤ k → k < b → r k = none := by
              rcases HC3.out with e | e
              · left
                exact Nat.le_trans (Nat.pow_le_pow_right (by omega) (by omega)) HG2.out
              · exact .inr e
            have HOR := Lib.hid hor
            have HR0 := Lib.hid hr
            clear hr hor hps
            go_wp2_with fail
            go_meet
            exact ⟨b, p, rfl, hc1, hc2, HR0.out, HOR.out, rfl⟩
      case rest =>
        obtain ⟨b, p, rfl, hc1, hc2, hr, hor, rfl⟩ := hcut
        rename_i K1 a1
        refine a1 _ _ (mh_t8 HB.out hn hM hM2 hG hH HHG.out HWR.out (by omega) hT8 hc1 hc2 hr hor HP.out HW.out _ _ _ _ _ _ _ _ _ _ _ _ _ _ _ _ _ _ _ _ _ _ _ _ _ _ _ _ _ _ _ _ _ _ _ _ _ _ _ _ _ _ _ _ _ _ _ _ _ _ _ _ _ _ _ _ _ _ _ _ _ _ _ _ _ _ _ _ _ _ _ _ _ _ _ _ _ _ _ _ _ _ _ _ _ _ _ _ _ _ _ _ _ _ _ _ _ _ _ _ _ _ _ _ _ _ _ _ _ _ _ _ _ _ _ _ _ _ _ _ _ _ _ _ _ _ _ _ _ _ _ _ _ _ _ _ _ _ _ _ _ _ _ _ _ _ _ _ _ _ _ _ _ _ _ _ _ _ _ _ _ _ _ _ _ _ _ _ _ _ _ _ _ _ _ _ _ _ _ _ _ _ _ _ _ _ _ _ _ _ _ _ _ _ _ _ _ _ _ _ _ _ _ _ _ _ _ _ _ _ _ _ _ _ _ _ _ _ _ _ _ _ _ _ _ _ _ _ _ _ _ _ _ _ _ _ _ _ _ _ _ _ _ _ _ _ _ _ _ _ _ ?_)
        exact fun F w' h => HK.out F w' h
set_option maxRecDepth 100000 in
set_option maxHeartbeats 6400000 in
theorem mh_e8 {w wr : World} {H G R n M : Nat} {f : Nat → Value} {z c pa sy : Nat → Nat} {E i : Nat} {y : Int} {l : Nat → Nat} {r : Nat → Option Nat} (hE : 1 ≤ E) (hy : y = -(E : Int)) (hi : i < n) (hO : OvI n M E i l (r 1)) (hW : MhW w H G R f (ndV (NV z n c pa sy l)) (rkV r) wr) (Q : Exit → Act → World → Prop)
    (u0 u1 u2 u3 u4 u7 u9 u12 u13 u14 u15 u16 u17 u18 u19 u20 u21 u22 u23 u24 u25 u26 u27 u28 u29 u30 u31 u32 u33 u34 u35 u36 u37 u38 u39 u40 u41 u42 u43 u44 u45 u46 u47 u48 u49 u50 u51 u52 u53 u54 u55 u56 u57 u58 u59 u60 u61 u62 u63 u64 u65 u66 u67 u68 u69 u70 u71 u72 u73 u74 u75 u76 u77 u78 u79 u80 u81 u82 u83 u84 u85 u86 u87 u88 u89 u90 u91 u92 u93 u94 u95 u96 u97 u98 u99 u100 u101 u102 u103 u104 u105 u106 u107 u108 u109 u110 u111 u112 u113 u114 u115 u116 u117 u118 u119 u120 u121 u122 u123 u124 u125 u126 u127 u128 u129 u130 u131 u132 u133 u134 u135 u136 u137 u138 u139 u140 u141 u142 u143 u144 u145 u146 u147 u148 u149 u150 u151 u152 u153 u154 u155 u156 u157 u158 u159 u160 u161 u162 u163 u164 u165 u166 u167 u168 u169 u170 u171 u172 u173 u174 u175 u176 u177 u178 u179 u180 u181 u182 u183 u184 u185 u186 u187 u188 u189 u190 u191 u192 u193 u194 u195 u196 u197 u198 u199 u200 u201 u202 u203 u204 u205 u206 u207 u208 u209 u210 u211 u212 u213 u214 u215 u216 u217 u218 u219 u220 u221 u222 u223 u224 u225 u226 u227 u228 u229 u230 u231 u232 u233 u234 u235 u236 u237 u238 u239 u240 u241 u242 u243 u244 u245 u246 u247 u248 u249 u250 u251 u252 u253 u254 u255 : Value)
    (hend : ∀ F w', (∃ (y : Int) (E i : Nat) (l : Nat → Nat) (r : Nat → Option Nat), MhF M G R (.int .i64 y) (.int .u32 (i : Nat)) F ∧ y = -(E : Int) ∧ i < n ∧ OvI n M E i l (r 1) ∧ MhW w H G R f (ndV (NV z n c pa sy l)) (rkV r) w') → Q (.exit 8) F w') :
    Code.wp Tryf.prog mhB8 Q ⟨#[u0, u1, u2, u3, u4, .int .u8 (M : Nat), .slice (some ⟨G, 1, none⟩) 512 512, u7, .int .i64 y, u9, .int .u32 (i : Nat), .pointer (some ⟨R, 0, none⟩), u12, u13, u14, u15, u16, u17, u18, u19, u20, u21, u22, u23, u24, u25, u26, u27, u28, u29, u30, u31, u32, u33, u34, u35, u36, u37, u38, u39, u40, u41, u42, u43, u44, u45, u46, u47, u48, u49, u50, u51, u52, u53, u54, u55, u56, u57, u58, u59, u60, u61, u62, u63, u64, u65, u66, u67, u68, u69, u70, u71, u72, u73, u74, u75, u76, u77, u78, u79, u80, u81, u82, u83, u84, u85, u86, u87, u88, u89, u90, u91, u92, u93, u94, u95, u96, u97, u98, u99, u100, u101, u102, u103, u104, u105, u106, u107, u108, u109, u110, u111, u112, u113, u114, u115, u116, u117, u118, u119, u120, u121, u122, u123, u124, u125, u126, u127, u128, u129, u130, u131, u132, u133, u134, u135, u136, u137, u138, u139, u140, u141, u142, u143, u144, u145, u146, u147, u148, u149, u150, u151, u152, u153, u154, u155, u156, u157, u158, u159, u160, u161, u162, u163, u164, u165, u166, u167, u168, u169, u170, u171, u172, u173, u174, u175, u176, u177, u178, u179, u180, u181, u182, u183, u184, u185, u186, u187, u188, u189, u190, u191, u192, u193, u194, u195, u196, u197, u198, u199, u200, u201, u202, u203, u204, u205, u206, u207, u208, u209, u210, u211, u212, u213, u214, u215, u216, u217, u218, u219, u220, u221, u222, u223, u224, u225, u226, u227, u228, u229, u230, u231, u232, u233, u234, u235, u236, u237, u238, u239, u240, u241, u242, u243, u244, u245, u246, u247, u248, u249, u250, u251, u252, u253, u254, u255], []⟩ wr := by
  conv => arg 2; whnf
  have hd : decide ((0 : Int) < y) = false := decide_eq_false (by omega)
  have HY := Lib.hid hy
  have HO := Lib.hid hO
  have HW := Lib.hid hW
  have HEND := Lib.hid hend
  clear hy hO hW hend
  go_wp2_with fail
  exact HEND.out _ _ ⟨y, E, i, l, r, ⟨rfl, rfl, rfl, rfl, rfl, rfl, rfl⟩, HY.out, hi, HO.out, HW.out⟩
theorem mh_l8 {w wr : World} {H G R n M : Nat} {f : Nat → Value} {z c pa sy : Nat → Nat} (hB : NdB n c pa sy) (hn : n ≤ 256) (hM : 5 ≤ M) (hM2 : M ≤ 11) (hG : G < R) (hH : H < R) (hHG : H ≠ G) (hwR : w.heap.size ≤ R) (hn2 : n ≤ 2 ^ M)
    {i : Nat} (Q : Exit → Act → World → Prop) (F : Act) {v8 : Value} (hF : MhF M G R v8 (.int .u32 (i : Nat)) F) (hR : MhP w H G R n M f z c pa sy i F wr)
    (hend : ∀ F w', (∃ (y : Int) (E i : Nat) (l : Nat → Nat) (r : Nat → Option Nat), MhF M G R (.int .i64 y) (.int .u32 (i : Nat)) F ∧ y = -(E : Int) ∧ i < n ∧ OvI n M E i l (r 1) ∧ MhW w H G R f (ndV (NV z n c pa sy l)) (rkV r) w') → Q (.exit 8) F w') :
    Code.wp Tryf.prog mhL8 Q F wr := by
  have e : mhL8 = .loop mhB8 := by kernel_rfl
  rw [e]
  refine wp_loop (fun F w' => (∃ v8, MhF M G R v8 (.int .u32 (i : Nat)) F) ∧ MhP w H G R n M f z c pa sy i F w') (fun F _ => (intOf (F.tmps.getD 8 undef)).toNat) ⟨⟨_, hF⟩, hR⟩ ?_
  rintro F wr ⟨⟨v8, hF⟩, hR⟩
  have h8 : F.tmps.getD 8 undef = v8 := hF.2.2.2.2.1
  rcases hR with ⟨T, l, r, he, hP, hW⟩ | ⟨E, y, l, r, hE, he, hy, hi, hO, hW⟩
  · rw [h8] at he
    rw [mh_frame hF, he]
    refine mh_r8 hB hn hM hM2 hG hH hHG hwR hn2 hP hW _ _ _ _ _ _ _ _ _ _ _ _ _ _ _ _ _ _ _ _ _ _ _ _ _ _ _ _ _ _ _ _ _ _ _ _ _ _ _ _ _ _ _ _ _ _ _ _ _ _ _ _ _ _ _ _ _ _ _ _ _ _ _ _ _ _ _ _ _ _ _ _ _ _ _ _ _ _ _ _ _ _ _ _ _ _ _ _ _ _ _ _ _ _ _ _ _ _ _ _ _ _ _ _ _ _ _ _ _ _ _ _ _ _ _ _ _ _ _ _ _ _ _ _ _ _ _ _ _ _ _ _ _ _ _ _ _ _ _ _ _ _ _ _ _ _ _ _ _ _ _ _ _ _ _ _ _ _ _ _ _ _ _ _ _ _ _ _ _ _ _ _ _ _ _ _ _ _ _ _ _ _ _ _ _ _ _ _ _ _ _ _ _ _ _ _ _ _ _ _ _ _ _ _ _ _ _ _ _ _ _ _ _ _ _ _ _ _ _ _ _ _ _ _ _ _ _ _ _ _ _ _ _ _ _ _ _ _ _ _ _ _ _ _ _ _ _ _ _ _ _ _ (fun F' w' h => hend F' w' h) ?_
    rintro F' w' ⟨v, h1, h2, h3⟩
    refine ⟨⟨⟨v, h1⟩, h2⟩, ?_⟩
    have h9 : F'.tmps.getD 8 undef = v := h1.2.2.2.2.1
    show (intOf (F'.tmps.getD 8 undef)).toNat < (intOf (.int .i64 (T : Nat))).toNat
    rw [h9]
    simpa [intOf] using h3
  · rw [h8] at he
    rw [mh_frame hF, he]
    exact mh_e8 hE hy hi hO hW _ _ _ _ _ _ _ _ _ _ _ _ _ _ _ _ _ _ _ _ _ _ _ _ _ _ _ _ _ _ _ _ _ _ _ _ _ _ _ _ _ _ _ _ _ _ _ _ _ _ _ _ _ _ _ _ _ _ _ _ _ _ _ _ _ _ _ _ _ _ _ _ _ _ _ _ _ _ _ _ _ _ _ _ _ _ _ _ _ _ _ _ _ _ _ _ _ _ _ _ _ _ _ _ _ _ _ _ _ _ _ _ _ _ _ _ _ _ _ _ _ _ _ _ _ _ _ _ _ _ _ _ _ _ _ _ _ _ _ _ _ _ _ _ _ _ _ _ _ _ _ _ _ _ _ _ _ _ _ _ _ _ _ _ _ _ _ _ _ _ _ _ _ _ _ _ _ _ _ _ _ _ _ _ _ _ _ _ _ _ _ _ _ _ _ _ _ _ _ _ _ _ _ _ _ _ _ _ _ _ _ _ _ _ _ _ _ _ _ _ _ _ _ _ _ _ _ _ _ _ _ _ _ _ _ _ _ _ _ _ _ _ _ _ _ _ _ _ _ _ _ _ (fun F' w' h => hend F' w' h)
end Go.Proofs.YthkklojjpgjiiaaFmt
