/-
  fse.buildDtable: the states are gone through. Conditions: those of each.
-/
import Derived.Test.YthkklojjpgjiiaaFmtHuffT28
namespace Go.Proofs.YthkklojjpgjiiaaFmt
open Go.RowKit Go.Extern.Stop Go.Stop Go.Extern

set_option maxRecDepth 100000 in
set_option maxHeartbeats 1600000 in
theorem dt_l3_5 (F : Interp) {w wr : World} (hF : F.answers w.tape) {D h m : Nat} {cs : List Int} {f : Nat → Value} {zb : Bool} (hD : D < h) (hw : w.heap.size ≤ h) (hm : cs.length = m) (hm2 : m ≤ 256) (hl : Least cs) (hs : sumA cs = 32) (hcs : ∀ k, k < m → f (256 + k) = .int .i16 (cs.getD k 0)) (h524 : f 524 = .slice (some ⟨h, 0, none⟩) 32 32) (h529 : f 529 = .int .u8 5)
    (u1 u2 u3 u4 u6 u7 u8 u9 u10 u11 u12 u13 u14 u16 u17 u18 u19 u20 u21 u22 u23 u24 u25 u26 u27 u28 u29 u30 u31 u32 u33 u34 u35 u36 u37 u38 u39 u40 u41 u42 u43 u44 u45 u46 u47 u48 u49 u50 u51 u52 u53 u54 u55 u56 u57 u58 u59 u60 u61 u62 u63 u64 u65 u66 u67 u68 u69 u70 u71 u72 u73 u74 u75 u76 u77 u78 u79 u80 u81 u82 u83 u84 u85 u86 u87 u88 u89 u90 u91 u92 u93 u94 u95 u96 u97 u98 u99 u100 u101 u102 u103 u104 u105 u106 u107 u108 u109 u110 u111 u112 u113 u114 u115 u116 u117 u118 u119 u120 u121 u122 u123 u124 u125 u126 u127 u128 u129 u130 u131 u132 u133 u134 u135 u136 u137 u138 u139 u140 u141 u142 u143 u144 u145 u149 u150 u151 u152 u153 u154 u155 u156 u157 u158 u159 u160 u161 u162 u163 u164 u165 u166 u167 u168 u169 u170 u171 u172 u173 u174 u175 u176 u177 u178 u179 u180 u181 u182 u183 u184 u185 u186 u187 u188 u189 u190 u191 u192 u193 u194 u195 u196 u197 u198 u199 u200 u201 u202 u203 u204 u205 u206 u207 u208 u209 u210 u211 u212 u213 u214 u215 u216 u217 : Value) (Q : Exit → Act → World → Prop) (hW : DtW w D h 32 f zb (fun k => cv (symF cs 32 k)) zf zf (nuV cs m) wr)
    (hret : ∀ F' w', F'.defers = [] → F'.tmps.size = 218 → (∃ b s, F'.tmps.getD 2 undef = .iface 107 (.pointer (some ⟨b, 0, none⟩)) ∧ w'.cell? ⟨b, 0, none⟩ = some (.string s)) → LoopsF cs 5 → Only (· = D) w w' → Q .ret F' w')
    (hend : ∀ F' w', F'.defers = [] → F'.tmps.size = 218 → ¬ LoopsF cs 5 → DtW w D h 32 f zb (symF cs 32) (bitsF cs 5) (baseF cs 5) (nuW cs 32 32) w' → Q (.exit 8) F' w') :
    Code.wp Tryf.prog dtL3 Q ⟨#[.pointer (some ⟨D, 0, none⟩), u1, u2, u3, u4, .slice (some ⟨h + 2, 0, none⟩) 256 256, u6, u7, u8, u9, u10, u11, u12, u13, u14, .int .u16 32, u16, u17, u18, u19, u20, u21, u22, u23, u24, u25, u26, u27, u28, u29, u30, u31, u32, u33, u34, u35, u36, u37, u38, u39, u40, u41, u42, u43, u44, u45, u46, u47, u48, u49, u50, u51, u52, u53, u54, u55, u56, u57, u58, u59, u60, u61, u62, u63, u64, u65, u66, u67, u68, u69, u70, u71, u72, u73, u74, u75, u76, u77, u78, u79, u80, u81, u82, u83, u84, u85, u86, u87, u88, u89, u90, u91, u92, u93, u94, u95, u96, u97, u98, u99, u100, u101, u102, u103, u104, u105, u106, u107, u108, u109, u110, u111, u112, u113, u114, u115, u116, u117, u118, u119, u120, u121, u122, u123, u124, u125, u126, u127, u128, u129, u130, u131, u132, u133, u134, u135, u136, u137, u138, u139, u140, u141, u142, u143, u144, u145, .slice (some ⟨h, 0, none⟩) 32 32, .int .i64 32, .int .i64 0, u149, u150, u151, u152, u153, u154, u155, u156, u157, u158, u159, u160, u161, u162, u163, u164, u165, u166, u167, u168, u169, u170, u171, u172, u173, u174, u175, u176, u177, u178, u179, u180, u181, u182, u183, u184, u185, u186, u187, u188, u189, u190, u191, u192, u193, u194, u195, u196, u197, u198, u199, u200, u201, u202, u203, u204, u205, u206, u207, u208, u209, u210, u211, u212, u213, u214, u215, u216, u217], []⟩ wr := by
  conv => arg 2; whnf
  have hst : DRel5 w D h 32 5 cs f zb (.int .i64 0) wr := by
    refine ⟨0, Nat.zero_le _, rfl, fun j hj => absurd hj (Nat.not_lt_zero j), ?_⟩
    rw [← hm] at hW
    exact hW.cgN (nuV_all cs 32)
  have HM := Lib.hid hm
  have HCS := Lib.hid hcs
  have HL := Lib.hid hl
  have HS := Lib.hid hs
  have H524 := Lib.hid h524
  have HWH := Lib.hid hw
  have HST := Lib.hid hst
  have HEND := Lib.hid hend
  have HRET := Lib.hid hret
  have H529 := Lib.hid h529
  have HF := Lib.hid hF
  clear hm hcs hl hs h524 hw hW hst hend hret h529 hF
  go_wp2_with fail
  go_loopw [148] (DRel5 w D h 32 5 cs f zb) (fun iv _ => 32 - (intOf iv).toNat)
  case atStart => exact HST.out
  case round =>
    obtain ⟨i, hi, rfl, hno, hT⟩ := hrel
    have HTi := Lib.hid hT
    have HNO := Lib.hid hno
    clear hT hno
    by_cases hiS : i < 32
    · have hso := sym_ok cs 32 HL.out HS.out (by omega) i hiS
      have how := own_facts cs 32 HL.out HS.out (by omega) (by rw [HM.out]; exact hm2) i hiS
      obtain ⟨s, hs⟩ : ∃ s, symF cs 32 i = s := ⟨_, rfl⟩
      obtain ⟨o, ho⟩ : ∃ o, ownF cs 32 i = o := ⟨_, rfl⟩
      rw [hs, HM.out] at hso
      rw [ho] at how
      have hcvs : cv (symF cs 32 i) = s := by unfold cv; rw [hs, if_neg (by omega)]
      have ho2 : nxt cs s + cnt (symF cs 32) i s = o := by rw [← ho]; unfold ownF; rw [hs]
      have c0 : wr.cell? ⟨h, i * 3, none⟩ = some (.int .u16 0) := HTi.out.2.1.cellv (i * 3) (by omega) _ (by unfold dcV; rw [if_pos (by omega), show i * 3 / 3 = i by omega]; exact congrArg (fun z : Nat => Value.int .u16 (z : Int)) (if_neg (Nat.lt_irrefl i)))
      have c1 : wr.cell? ⟨h, i * 3 + 1, none⟩ = some (.int .u8 (s : Nat)) := HTi.out.2.1.cellv (i * 3 + 1) (by omega) _ (by unfold dcV; rw [if_neg (by omega), if_pos (by omega), show (i * 3 + 1) / 3 = i by omega]; exact congrArg (fun z : Nat => Value.int .u8 (z : Int)) hcvs)
      have c2 : wr.cell? ⟨h, i * 3 + 2, none⟩ = some (.int .u8 0) := HTi.out.2.1.cellv (i * 3 + 2) (by omega) _ (by unfold dcV; rw [if_neg (by omega), if_neg (by omega), show (i * 3 + 2) / 3 = i by omega]; exact congrArg (fun z : Nat => Value.int .u8 (z : Int)) (if_neg (Nat.lt_irrefl i)))
      have f0 : wr.frozen? ⟨h, i * 3, none⟩ = false := HTi.out.2.1.frozen _
      have f1 : wr.frozen? ⟨h, i * 3 + 2, none⟩ = false := HTi.out.2.1.frozen _
      have c3 : wr.cell? ⟨h + 2, s, none⟩ = some (.int .u16 (o : Nat)) := HTi.out.2.2.2.1.cellv s (by omega) _ (by unfold nuW; rw [ho2])
      have f3 : wr.frozen? ⟨h + 2, s, none⟩ = false := HTi.out.2.2.2.1.frozen s
      have k5 : wr.cell? ⟨D, 524, none⟩ = some (.slice (some ⟨h, 0, none⟩) 32 32) := HTi.out.1.cellv 524 (by omega) _ (by rw [updV_ne _ _ _ _ (by omega)]; exact H524.out)
      have k9 : wr.cell? ⟨D, 529, none⟩ = some (.int .u8 5) := HTi.out.1.cellv 529 (by omega) _ (by rw [updV_ne _ _ _ _ (by omega)]; exact H529.out)
      have hhb : h + 2 < wr.heap.size := HTi.out.2.2.2.1.lt
      have hsm : s < m := hso.1
      have hs256 : (s : Int) < 256 := by omega
      have ho3 : 1 ≤ o := how.1
      have ho4 : o < 2 * 32 := how.2.2
      obtain ⟨lo, hlo⟩ : ∃ lo, o.log2 = lo := ⟨_, rfl⟩
      have hll := Nat.log2_self_le (n := o) (by omega)
      have hlu := Nat.lt_log2_self (n := o)
      rw [hlo] at hll hlu
      have hlo6 : lo ≤ 5 := by
        have h1 : 2 ^ lo < 2 ^ (5 + 1) := by omega
        have := (Nat.pow_lt_pow_iff_right (a := 2) (by omega)).1 h1
        omega
      have KL := Lib.hid (fun wx => highBits_any o wx (by omega) (by omega) (o : Int) rfl)
      rw [hlo] at KL
      have HSS := Lib.hid hs
      have HO := Lib.hid ho
      have HO2 := Lib.hid ho2
      have HLO := Lib.hid hlo
      have HLL := Lib.hid hll
      have HLU := Lib.hid hlu
      clear hso how hs ho hcvs ho2 hlo hll hlu
      have e2 : (o : Int) + 1 = ((o + 1 : Nat) : Int) := by omega
      have HE2 := Lib.hid e2
      clear e2
      go_upto_region 41 with fail
      rw [HE2.out]
      have hT2 := ((HTi.out.setN hD HWH.out s (.int .u16 (o + 1 : Nat))).alloc (.cells #[.int .u16 0, .int .u8 (s : Nat), .int .u8 0] 162)).cgN (nuW_step cs 32 i s o HSS.out HO2.out)
      generalize hwz : World.alloc _ _ = wz at hT2 ⊢
      have k5 : wz.cell? ⟨D, 524, none⟩ = some (.slice (some ⟨h, 0, none⟩) 32 32) := hT2.1.cellv 524 (by omega) _ (by rw [updV_ne _ _ _ _ (by omega)]; exact H524.out)
      have k9 : wz.cell? ⟨D, 529, none⟩ = some (.int .u8 5) := hT2.1.cellv 529 (by omega) _ (by rw [updV_ne _ _ _ _ (by omega)]; exact H529.out)
      have c2 : wz.cell? ⟨h, i * 3 + 2, none⟩ = some (.int .u8 0) := hT2.2.1.cellv (i * 3 + 2) (by omega) _ (by unfold dcV; rw [if_neg (by omega), if_neg (by omega), show (i * 3 + 2) / 3 = i by omega]; exact congrArg (fun z : Nat => Value.int .u8 (z : Int)) (if_neg (Nat.lt_irrefl i)))
      have c0 : wz.cell? ⟨h, i * 3, none⟩ = some (.int .u16 0) := hT2.2.1.cellv (i * 3) (by omega) _ (by unfold dcV; rw [if_pos (by omega), show i * 3 / 3 = i by omega]; exact congrArg (fun z : Nat => Value.int .u16 (z : Int)) (if_neg (Nat.lt_irrefl i)))
      have f0 : wz.frozen? ⟨h, i * 3, none⟩ = false := hT2.2.1.frozen _
      have f1 : wz.frozen? ⟨h, i * 3 + 2, none⟩ = false := hT2.2.1.frozen _
      have HT2 := Lib.hid hT2
      clear hT2 hwz c1 c3 f3
      go_quiet ((go_at_call 62; exact Calls.quiet_of_same ((KL.out _).mono fun _ _ h => ⟨h.1, h.2.symm⟩)))
      obtain ⟨nb, hnb⟩ : ∃ nb : Nat, (5 : Int) - (lo : Int) = (nb : Int) := ⟨5 - lo, by omega⟩
      rw [hnb]
      have HNB := Lib.hid hnb
      have hnb6 : nb ≤ 6 := by omega
      clear hnb
      have hbt : bitsF cs 5 i = nb := by unfold bitsF; rw [show (2 : Nat) ^ 5 = 32 from rfl, HO.out, HLO.out]; have := HNB.out; omega
      obtain ⟨B, hB⟩ : ∃ B, baseF cs 5 i = B := ⟨_, rfl⟩
      have hBe : o * 2 ^ nb - 32 = B := by rw [← hB]; unfold baseF; rw [hbt, show (2 : Nat) ^ 5 = 32 from rfl, HO.out]
      have hBS : B < 32 := by
        have := (next_lt cs 5 32 i 0 (by omega) HL.out HS.out (by rw [HM.out]; exact hm2) hiS (Nat.two_pow_pos _)).2.2
        rwa [hB] at this
      have hg := base_bd o lo 5 HLL.out HLU.out hlo6
      rw [show 5 - lo = nb by have := HNB.out; omega, show (2 : Nat) ^ 5 = 32 from rfl] at hg
      have eB : IntKind.u16.wrap (IntKind.u16.wrap ((o : Int) * 2 ^ nb) - 32) = (B : Int) := by
        rw [show (o : Int) * 2 ^ nb = ((o * 2 ^ nb : Nat) : Int) by simp, IntKind.wrap_u16, IntKind.wrap_u16]
        omega
      have HBT := Lib.hid hbt
      have HBB := Lib.hid hB
      have hBi : (B : Int) < 32 := by omega
      clear hbt hB
      by_cases hJ : B = i ∧ nb = 0
      · obtain ⟨rfl, rfl⟩ := hJ
        have eB2 : IntKind.u16.wrap ((o : Int) - 32) = (B : Int) := by
          rw [IntKind.wrap_u16]
          omega
        clear eB hBe hg
        have KJ : ∀ wy : World, wy.tape = wz.tape → ∀ g, g = wy.heap.size → Calls Tryf.prog 23 #[.string ⟨#[110, 101, 119, 83, 116, 97, 116, 101, 32, 40, 37, 100, 41, 32, 61, 61, 32, 111, 108, 100, 83, 116, 97, 116, 101, 32, 40, 37, 100, 41, 32, 97, 110, 100, 32, 110, 111, 32, 98, 105, 116, 115]⟩, .slice (some ⟨g, 0, none⟩) 2 2] (wy.alloc (.cells #[.iface 37 (.int .u16 (B : Nat)), .iface 3 (.int .i64 (B : Nat))] 20)) (ErrPost (wy.alloc (.cells #[.iface 37 (.int .u16 (B : Nat)), .iface 3 (.int .i64 (B : Nat))] 20))) := fun wy ht g hg =>
          errorf_J F g _ _ _ (by show F.answers wy.tape; rw [ht, HT2.out.2.2.2.2.tape]; exact HF.out) (cell_new20 _ _ _ _ _ hg) (cell_new21 _ _ _ _ _ hg)
        have HKJ := Lib.hid KJ
        clear KJ
        go_wp2_with fail
        refine (HKJ.out _ (by rfl) _ (by simp)).mono ?_
        rintro e w5 he
        obtain ⟨⟨b, st, rfl, hc⟩, hon⟩ := errE_of he
        have HC := Lib.hid hc
        have HON := Lib.hid hon
        clear he hc hon
        go_wp2_with fail
        exact HRET.out _ _ rfl rfl ⟨b, st, rfl, HC.out⟩ ⟨B, hiS, HBT.out, HBB.out⟩ ((((HT2.out.2.2.2.2.drewN nq).setNew (p := ⟨h, B * 3 + 2, none⟩) HWH.out _).alloc _).trans (HON.out.mono (fun _ hh => hh.elim)))
      · clear hBe hg
        have hfin : DRel5 w D h 32 5 cs f zb (.int .i64 (i + 1 : Nat)) (((wz.drewN nq).setCell ⟨h, i * 3 + 2, none⟩ (.int .u8 (nb : Nat))).setCell ⟨h, i * 3, none⟩ (.int .u16 (B : Nat))) := by
          refine ⟨i + 1, by omega, rfl, fun j hj => ?_, ?_⟩
          · rcases Nat.lt_or_ge j i with hj2 | hj2
            · exact HNO.out j hj2
            · rw [show j = i by omega, HBT.out, HBB.out]
              exact fun e => hJ ⟨e.2, e.1⟩
          · have h1 := ((HT2.out.drewN nq).setT hD HWH.out (i * 3 + 2) (.int .u8 (nb : Nat)) (dcV_b _ _ _ i nb _)).setT hD HWH.out (i * 3) (.int .u16 (B : Nat)) (dcV_c _ _ _ i B _)
            rw [upd_upto (bitsF cs 5) i _ HBT.out, upd_upto (baseF cs 5) i _ HBB.out] at h1
            exact h1
        have HFIN := Lib.hid hfin
        have hcs2 : B ≠ i ∨ (B = i ∧ nb ≠ 0) := by omega
        clear hfin hJ
        rcases hcs2 with hne | ⟨rfl, hne⟩
        · have b1 : ((B : Int) == (i : Int)) = false := beq_eq_false_iff_ne.2 (by omega)
          clear hne
          go_wp2_with fail
          exact ⟨HFIN.out, by simp [intOf]; omega⟩
        · have b1 : ((nb : Int) == 0) = false := beq_eq_false_iff_ne.2 (by omega)
          clear hne
          go_wp2_with fail
          exact ⟨HFIN.out, by simp [intOf]; omega⟩
    · obtain rfl : i = 32 := by omega
      go_wp2_with fail
      refine HEND.out _ _ rfl rfl ?_ ?_
      · rintro ⟨j, hj, hb⟩
        exact HNO.out j hj hb
      · have h0 := HTi.out
        refine ⟨h0.1, h0.2.1.congr fun k hk => ?_, h0.2.2⟩
        have hk3 : k / 3 < 32 := by omega
        have h3 := sym_ok cs 32 HL.out HS.out (by omega) (k / 3) hk3
        rw [HM.out] at h3
        unfold dcV
        simp only [hk3, if_true]
        rw [show cv (symF cs 32 (k / 3)) = symF cs 32 (k / 3) by unfold cv; rw [if_neg (by omega)]]
set_option maxRecDepth 100000 in
set_option maxHeartbeats 1600000 in
theorem dt_l3_6 (F : Interp) {w wr : World} (hF : F.answers w.tape) {D h m : Nat} {cs : List Int} {f : Nat → Value} {zb : Bool} (hD : D < h) (hw : w.heap.size ≤ h) (hm : cs.length = m) (hm2 : m ≤ 256) (hl : Least cs) (hs : sumA cs = 64) (hcs : ∀ k, k < m → f (256 + k) = .int .i16 (cs.getD k 0)) (h524 : f 524 = .slice (some ⟨h, 0, none⟩) 64 64) (h529 : f 529 = .int .u8 6)
    (u1 u2 u3 u4 u6 u7 u8 u9 u10 u11 u12 u13 u14 u16 u17 u18 u19 u20 u21 u22 u23 u24 u25 u26 u27 u28 u29 u30 u31 u32 u33 u34 u35 u36 u37 u38 u39 u40 u41 u42 u43 u44 u45 u46 u47 u48 u49 u50 u51 u52 u53 u54 u55 u56 u57 u58 u59 u60 u61 u62 u63 u64 u65 u66 u67 u68 u69 u70 u71 u72 u73 u74 u75 u76 u77 u78 u79 u80 u81 u82 u83 u84 u85 u86 u87 u88 u89 u90 u91 u92 u93 u94 u95 u96 u97 u98 u99 u100 u101 u102 u103 u104 u105 u106 u107 u108 u109 u110 u111 u112 u113 u114 u115 u116 u117 u118 u119 u120 u121 u122 u123 u124 u125 u126 u127 u128 u129 u130 u131 u132 u133 u134 u135 u136 u137 u138 u139 u140 u141 u142 u143 u144 u145 u149 u150 u151 u152 u153 u154 u155 u156 u157 u158 u159 u160 u161 u162 u163 u164 u165 u166 u167 u168 u169 u170 u171 u172 u173 u174 u175 u176 u177 u178 u179 u180 u181 u182 u183 u184 u185 u186 u187 u188 u189 u190 u191 u192 u193 u194 u195 u196 u197 u198 u199 u200 u201 u202 u203 u204 u205 u206 u207 u208 u209 u210 u211 u212 u213 u214 u215 u216 u217 : Value) (Q : Exit → Act → World → Prop) (hW : DtW w D h 64 f zb (fun k => cv (symF cs 64 k)) zf zf (nuV cs m) wr)
    (hret : ∀ F' w', F'.defers = [] → F'.tmps.size = 218 → (∃ b s, F'.tmps.getD 2 undef = .iface 107 (.pointer (some ⟨b, 0, none⟩)) ∧ w'.cell? ⟨b, 0, none⟩ = some (.string s)) → LoopsF cs 6 → Only (· = D) w w' → Q .ret F' w')
    (hend : ∀ F' w', F'.defers = [] → F'.tmps.size = 218 → ¬ LoopsF cs 6 → DtW w D h 64 f zb (symF cs 64) (bitsF cs 6) (baseF cs 6) (nuW cs 64 64) w' → Q (.exit 8) F' w') :
    Code.wp Tryf.prog dtL3 Q ⟨#[.pointer (some ⟨D, 0, none⟩), u1, u2, u3, u4, .slice (some ⟨h + 2, 0, none⟩) 256 256, u6, u7, u8, u9, u10, u11, u12, u13, u14, .int .u16 64, u16, u17, u18, u19, u20, u21, u22, u23, u24, u25, u26, u27, u28, u29, u30, u31, u32, u33, u34, u35, u36, u37, u38, u39, u40, u41, u42, u43, u44, u45, u46, u47, u48, u49, u50, u51, u52, u53, u54, u55, u56, u57, u58, u59, u60, u61, u62, u63, u64, u65, u66, u67, u68, u69, u70, u71, u72, u73, u74, u75, u76, u77, u78, u79, u80, u81, u82, u83, u84, u85, u86, u87, u88, u89, u90, u91, u92, u93, u94, u95, u96, u97, u98, u99, u100, u101, u102, u103, u104, u105, u106, u107, u108, u109, u110, u111, u112, u113, u114, u115, u116, u117, u118, u119, u120, u121, u122, u123, u124, u125, u126, u127, u128, u129, u130, u131, u132, u133, u134, u135, u136, u137, u138, u139, u140, u141, u142, u143, u144, u145, .slice (some ⟨h, 0, none⟩) 64 64, .int .i64 64, .int .i64 0, u149, u150, u151, u152, u153, u154, u155, u156, u157, u158, u159, u160, u161, u162, u163, u164, u165, u166, u167, u168, u169, u170, u171, u172, u173, u174, u175, u176, u177, u178, u179, u180, u181, u182, u183, u184, u185, u186, u187, u188, u189, u190, u191, u192, u193, u194, u195, u196, u197, u198, u199, u200, u201, u202, u203, u204, u205, u206, u207, u208, u209, u210, u211, u212, u213, u214, u215, u216, u217], []⟩ wr := by
  conv => arg 2; whnf
  have hst : DRel5 w D h 64 6 cs f zb (.int .i64 0) wr := by
    refine ⟨0, Nat.zero_le _, rfl, fun j hj => absurd hj (Nat.not_lt_zero j), ?_⟩
    rw [← hm] at hW
    exact hW.cgN (nuV_all cs 64)
  have HM := Lib.hid hm
  have HCS := Lib.hid hcs
  have HL := Lib.hid hl
  have HS := Lib.hid hs
  have H524 := Lib.hid h524
  have HWH := Lib.hid hw
  have HST := Lib.hid hst
  have HEND := Lib.hid hend
  have HRET := Lib.hid hret
  have H529 := Lib.hid h529
  have HF := Lib.hid hF
  clear hm hcs hl hs h524 hw hW hst hend hret h529 hF
  go_wp2_with fail
  go_loopw [148] (DRel5 w D h 64 6 cs f zb) (fun iv _ => 64 - (intOf iv).toNat)
  case atStart => exact HST.out
  case round =>
    obtain ⟨i, hi, rfl, hno, hT⟩ := hrel
    have HTi := Lib.hid hT
    have HNO := Lib.hid hno
    clear hT hno
    by_cases hiS : i < 64
    · have hso := sym_ok cs 64 HL.out HS.out (by omega) i hiS
      have how := own_facts cs 64 HL.out HS.out (by omega) (by rw [HM.out]; exact hm2) i hiS
      obtain ⟨s, hs⟩ : ∃ s, symF cs 64 i = s := ⟨_, rfl⟩
      obtain ⟨o, ho⟩ : ∃ o, ownF cs 64 i = o := ⟨_, rfl⟩
      rw [hs, HM.out] at hso
      rw [ho] at how
      have hcvs : cv (symF cs 64 i) = s := by unfold cv; rw [hs, if_neg (by omega)]
      have ho2 : nxt cs s + cnt (symF cs 64) i s = o := by rw [← ho]; unfold ownF; rw [hs]
      have c0 : wr.cell? ⟨h, i * 3, none⟩ = some (.int .u16 0) := HTi.out.2.1.cellv (i * 3) (by omega) _ (by unfold dcV; rw [if_pos (by omega), show i * 3 / 3 = i by omega]; exact congrArg (fun z : Nat => Value.int .u16 (z : Int)) (if_neg (Nat.lt_irrefl i)))
      have c1 : wr.cell? ⟨h, i * 3 + 1, none⟩ = some (.int .u8 (s : Nat)) := HTi.out.2.1.cellv (i * 3 + 1) (by omega) _ (by unfold dcV; rw [if_neg (by omega), if_pos (by omega), show (i * 3 + 1) / 3 = i by omega]; exact congrArg (fun z : Nat => Value.int .u8 (z : Int)) hcvs)
      have c2 : wr.cell? ⟨h, i * 3 + 2, none⟩ = some (.int .u8 0) := HTi.out.2.1.cellv (i * 3 + 2) (by omega) _ (by unfold dcV; rw [if_neg (by omega), if_neg (by omega), show (i * 3 + 2) / 3 = i by omega]; exact congrArg (fun z : Nat => Value.int .u8 (z : Int)) (if_neg (Nat.lt_irrefl i)))
      have f0 : wr.frozen? ⟨h, i * 3, none⟩ = false := HTi.out.2.1.frozen _
      have f1 : wr.frozen? ⟨h, i * 3 + 2, none⟩ = false := HTi.out.2.1.frozen _
      have c3 : wr.cell? ⟨h + 2, s, none⟩ = some (.int .u16 (o : Nat)) := HTi.out.2.2.2.1.cellv s (by omega) _ (by unfold nuW; rw [ho2])
      have f3 : wr.frozen? ⟨h + 2, s, none⟩ = false := HTi.out.2.2.2.1.frozen s
      have k5 : wr.cell? ⟨D, 524, none⟩ = some (.slice (some ⟨h, 0, none⟩) 64 64) := HTi.out.1.cellv 524 (by omega) _ (by rw [updV_ne _ _ _ _ (by omega)]; exact H524.out)
      have k9 : wr.cell? ⟨D, 529, none⟩ = some (.int .u8 6) := HTi.out.1.cellv 529 (by omega) _ (by rw [updV_ne _ _ _ _ (by omega)]; exact H529.out)
      have hhb : h + 2 < wr.heap.size := HTi.out.2.2.2.1.lt
      have hsm : s < m := hso.1
      have hs256 : (s : Int) < 256 := by omega
      have ho3 : 1 ≤ o := how.1
      have ho4 : o < 2 * 64 := how.2.2
      obtain ⟨lo, hlo⟩ : ∃ lo, o.log2 = lo := ⟨_, rfl⟩
      have hll := Nat.log2_self_le (n := o) (by omega)
      have hlu := Nat.lt_log2_self (n := o)
      rw [hlo] at hll hlu
      have hlo6 : lo ≤ 6 := by
        have h1 : 2 ^ lo < 2 ^ (6 + 1) := by omega
        have := (Nat.pow_lt_pow_iff_right (a := 2) (by omega)).1 h1
        omega
      have KL := Lib.hid (fun wx => highBits_any o wx (by omega) (by omega) (o : Int) rfl)
      rw [hlo] at KL
      have HSS := Lib.hid hs
      have HO := Lib.hid ho
      have HO2 := Lib.hid ho2
      have HLO := Lib.hid hlo
      have HLL := Lib.hid hll
      have HLU := Lib.hid hlu
      clear hso how hs ho hcvs ho2 hlo hll hlu
      have e2 : (o : Int) + 1 = ((o + 1 : Nat) : Int) := by omega
      have HE2 := Lib.hid e2
      clear e2
      go_upto_region 41 with fail
      rw [HE2.out]
      have hT2 := ((HTi.out.setN hD HWH.out s (.int .u16 (o + 1 : Nat))).alloc (.cells #[.int .u16 0, .int .u8 (s : Nat), .int .u8 0] 162)).cgN (nuW_step cs 64 i s o HSS.out HO2.out)
      generalize hwz : World.alloc _ _ = wz at hT2 ⊢
      have k5 : wz.cell? ⟨D, 524, none⟩ = some (.slice (some ⟨h, 0, none⟩) 64 64) := hT2.1.cellv 524 (by omega) _ (by rw [updV_ne _ _ _ _ (by omega)]; exact H524.out)
      have k9 : wz.cell? ⟨D, 529, none⟩ = some (.int .u8 6) := hT2.1.cellv 529 (by omega) _ (by rw [updV_ne _ _ _ _ (by omega)]; exact H529.out)
      have c2 : wz.cell? ⟨h, i * 3 + 2, none⟩ = some (.int .u8 0) := hT2.2.1.cellv (i * 3 + 2) (by omega) _ (by unfold dcV; rw [if_neg (by omega), if_neg (by omega), show (i * 3 + 2) / 3 = i by omega]; exact congrArg (fun z : Nat => Value.int .u8 (z : Int)) (if_neg (Nat.lt_irrefl i)))
      have c0 : wz.cell? ⟨h, i * 3, none⟩ = some (.int .u16 0) := hT2.2.1.cellv (i * 3) (by omega) _ (by unfold dcV; rw [if_pos (by omega), show i * 3 / 3 = i by omega]; exact congrArg (fun z : Nat => Value.int .u16 (z : Int)) (if_neg (Nat.lt_irrefl i)))
      have f0 : wz.frozen? ⟨h, i * 3, none⟩ = false := hT2.2.1.frozen _
      have f1 : wz.frozen? ⟨h, i * 3 + 2, none⟩ = false := hT2.2.1.frozen _
      have HT2 := Lib.hid hT2
      clear hT2 hwz c1 c3 f3
      go_quiet ((go_at_call 62; exact Calls.quiet_of_same ((KL.out _).mono fun _ _ h => ⟨h.1, h.2.symm⟩)))
      obtain ⟨nb, hnb⟩ : ∃ nb : Nat, (6 : Int) - (lo : Int) = (nb : Int) := ⟨6 - lo, by omega⟩
      rw [hnb]
      have HNB := Lib.hid hnb
      have hnb6 : nb ≤ 6 := by omega
      clear hnb
      have hbt : bitsF cs 6 i = nb := by unfold bitsF; rw [show (2 : Nat) ^ 6 = 64 from rfl, HO.out, HLO.out]; have := HNB.out; omega
      obtain ⟨B, hB⟩ : ∃ B, baseF cs 6 i = B := ⟨_, rfl⟩
      have hBe : o * 2 ^ nb - 64 = B := by rw [← hB]; unfold baseF; rw [hbt, show (2 : Nat) ^ 6 = 64 from rfl, HO.out]
      have hBS : B < 64 := by
        have := (next_lt cs 6 64 i 0 (by omega) HL.out HS.out (by rw [HM.out]; exact hm2) hiS (Nat.two_pow_pos _)).2.2
        rwa [hB] at this
      have hg := base_bd o lo 6 HLL.out HLU.out hlo6
      rw [show 6 - lo = nb by have := HNB.out; omega, show (2 : Nat) ^ 6 = 64 from rfl] at hg
      have eB : IntKind.u16.wrap (IntKind.u16.wrap ((o : Int) * 2 ^ nb) - 64) = (B : Int) := by
        rw [show (o : Int) * 2 ^ nb = ((o * 2 ^ nb : Nat) : Int) by simp, IntKind.wrap_u16, IntKind.wrap_u16]
        omega
      have HBT := Lib.hid hbt
      have HBB := Lib.hid hB
      have hBi : (B : Int) < 64 := by omega
      clear hbt hB
      by_cases hJ : B = i ∧ nb = 0
      · obtain ⟨rfl, rfl⟩ := hJ
        have eB2 : IntKind.u16.wrap ((o : Int) - 64) = (B : Int) := by
          rw [IntKind.wrap_u16]
          omega
        clear eB hBe hg
        have KJ : ∀ wy : World, wy.tape = wz.tape → ∀ g, g = wy.heap.size → Calls Tryf.prog 23 #[.string ⟨#[110, 101, 119, 83, 116, 97, 116, 101, 32, 40, 37, 100, 41, 32, 61, 61, 32, 111, 108, 100, 83, 116, 97, 116, 101, 32, 40, 37, 100, 41, 32, 97, 110, 100, 32, 110, 111, 32, 98, 105, 116, 115]⟩, .slice (some ⟨g, 0, none⟩) 2 2] (wy.alloc (.cells #[.iface 37 (.int .u16 (B : Nat)), .iface 3 (.int .i64 (B : Nat))] 20)) (ErrPost (wy.alloc (.cells #[.iface 37 (.int .u16 (B : Nat)), .iface 3 (.int .i64 (B : Nat))] 20))) := fun wy ht g hg =>
          errorf_J F g _ _ _ (by show F.answers wy.tape; rw [ht, HT2.out.2.2.2.2.tape]; exact HF.out) (cell_new20 _ _ _ _ _ hg) (cell_new21 _ _ _ _ _ hg)
        have HKJ := Lib.hid KJ
        clear KJ
        go_wp2_with fail
        refine (HKJ.out _ (by rfl) _ (by simp)).mono ?_
        rintro e w5 he
        obtain ⟨⟨b, st, rfl, hc⟩, hon⟩ := errE_of he
        have HC := Lib.hid hc
        have HON := Lib.hid hon
        clear he hc hon
        go_wp2_with fail
        exact HRET.out _ _ rfl rfl ⟨b, st, rfl, HC.out⟩ ⟨B, hiS, HBT.out, HBB.out⟩ ((((HT2.out.2.2.2.2.drewN nq).setNew (p := ⟨h, B * 3 + 2, none⟩) HWH.out _).alloc _).trans (HON.out.mono (fun _ hh => hh.elim)))
      · clear hBe hg
        have hfin : DRel5 w D h 64 6 cs f zb (.int .i64 (i + 1 : Nat)) (((wz.drewN nq).setCell ⟨h, i * 3 + 2, none⟩ (.int .u8 (nb : Nat))).setCell ⟨h, i * 3, none⟩ (.int .u16 (B : Nat))) := by
          refine ⟨i + 1, by omega, rfl, fun j hj => ?_, ?_⟩
          · rcases Nat.lt_or_ge j i with hj2 | hj2
            · exact HNO.out j hj2
            · rw [show j = i by omega, HBT.out, HBB.out]
              exact fun e => hJ ⟨e.2, e.1⟩
          · have h1 := ((HT2.out.drewN nq).setT hD HWH.out (i * 3 + 2) (.int .u8 (nb : Nat)) (dcV_b _ _ _ i nb _)).setT hD HWH.out (i * 3) (.int .u16 (B : Nat)) (dcV_c _ _ _ i B _)
            rw [upd_upto (bitsF cs 6) i _ HBT.out, upd_upto (baseF cs 6) i _ HBB.out] at h1
            exact h1
        have HFIN := Lib.hid hfin
        have hcs2 : B ≠ i ∨ (B = i ∧ nb ≠ 0) := by omega
        clear hfin hJ
        rcases hcs2 with hne | ⟨rfl, hne⟩
        · have b1 : ((B : Int) == (i : Int)) = false := beq_eq_false_iff_ne.2 (by omega)
          clear hne
          go_wp2_with fail
          exact ⟨HFIN.out, by simp [intOf]; omega⟩
        · have b1 : ((nb : Int) == 0) = false := beq_eq_false_iff_ne.2 (by omega)
          clear hne
          go_wp2_with fail
          exact ⟨HFIN.out, by simp [intOf]; omega⟩
    · obtain rfl : i = 64 := by omega
      go_wp2_with fail
      refine HEND.out _ _ rfl rfl ?_ ?_
      · rintro ⟨j, hj, hb⟩
        exact HNO.out j hj hb
      · have h0 := HTi.out
        refine ⟨h0.1, h0.2.1.congr fun k hk => ?_, h0.2.2⟩
        have hk3 : k / 3 < 64 := by omega
        have h3 := sym_ok cs 64 HL.out HS.out (by omega) (k / 3) hk3
        rw [HM.out] at h3
        unfold dcV
        simp only [hk3, if_true]
        rw [show cv (symF cs 64 (k / 3)) = symF cs 64 (k / 3) by unfold cv; rw [if_neg (by omega)]]
end Go.Proofs.YthkklojjpgjiiaaFmt
