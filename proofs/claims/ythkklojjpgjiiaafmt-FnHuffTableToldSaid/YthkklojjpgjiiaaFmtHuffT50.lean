/-
  fse.decompress: the whole. Conditions: those of each.
  fse.Decompress. Conditions: those of the theorem.
-/
import Derived.Test.YthkklojjpgjiiaaFmtHuffT48
import Derived.Test.YthkklojjpgjiiaaFmtHuffT49
import Derived.Test.YthkklojjpgjiiaaFmtHuffT42
import Derived.Test.YthkklojjpgjiiaaFmtHuffT04
import Derived.Test.YthkklojjpgjiiaaFmtHuffT27
namespace Go.Proofs.YthkklojjpgjiiaaFmt
open Go.RowKit Go.Extern.Stop Go.Stop Go.Extern

/-- what decompress hands back: the bits behind the chances are l -/
def DecPost (w : World) (D U H oH NH : Nat) (TH : TypeId) (fh0 : Nat → Value) (l : List UInt8) (lg : Nat) (sy bt bs : Nat → Nat) (e : Ending) (w' : World) : Prop :=
  Only (fun k => k = D ∨ k = U ∨ k = H) w w' ∧ HKeep H oH NH TH fh0 w' ∧
    (((∃ (b : Addr) (s : ByteArray), e = .returned (.iface 107 (.pointer (some b))) ∧ w'.cell? b = some (.string s) ∧ b ≠ ⟨D, 526, none⟩) ∧ ∀ R, DR l lg sy bt bs R → R = .refused ∨ R = .open_) ∨
     (e = .returned .nilIface ∧ ∃ f' v, RowF w' D 98 534 f' ∧ f' 526 = v ∧
       ((∃ out, OutA w' H oH NH TH fh0 v out ∧ out.length ≤ 255 ∧ (∀ x ∈ out, 0 ≤ x ∧ x < 256) ∧ ∀ R, DR l lg sy bt bs R → R = .good out ∨ R = .open_) ∨
        (∃ A' n' c', v = .slice A' n' c' ∧ 255 < n' ∧ ∀ R, DR l lg sy bt bs R → R = .refused ∨ R = .open_))))
theorem getD_run3 (a : Array Value) : ∀ k, k < a.size → a[k]? = some (a.getD k undef) := fun k hk => by
  rw [Array.getD_eq_getD_getElem?, Array.getElem?_eq_getElem hk]
  rfl
theorem DlFin.post {w w' : World} {D U S H oH NH : Nat} {TH : TypeId} {fh0 : Nat → Value} {l : List UInt8} {lg a b : Nat} {sy bt bs : Nat → Nat} {R : WRes} {F : Act}
    (hnx : ∀ i v, i < S → v < 2 ^ bt i → bs i + v < S) (hsy : ∀ i, i < S → sy i < 256) (ha : a < S) (hb : b < S)
    (h : DlFin w D U H oH NH TH fh0 R F w') (hR : ∀ R', DR l lg sy bt bs R' → R' = .open_ ∨ R' = R) (hsr : R = .open_ ∨ ∃ L, SR sy bt bs l L a b [] R) : DecPost w D U H oH NH TH fh0 l lg sy bt bs (.returned (F.tmps.getD 2 undef)) w' := by
  obtain ⟨h1, h2, ho, hkp, ⟨b', s, h3, h4, hne, h5⟩ | ⟨h3, f', v, h4, h5, h6⟩⟩ := h
  · refine ⟨ho, hkp, .inl ⟨⟨b', s, by rw [h3], h4, hne⟩, fun R' hR' => ?_⟩⟩
    rcases hR R' hR' with e | e
    · exact .inr e
    · rw [e]; exact h5
  · refine ⟨ho, hkp, .inr ⟨by rw [h3], f', v, h4, h5, ?_⟩⟩
    rcases h6 with ⟨out, rfl, hO⟩ | ⟨rfl, A', n', c', hv, hn'⟩
    · obtain ⟨L, hs⟩ := hsr.resolve_left (by simp)
      have g1 := hs.good_facts out rfl (fun x hx => by cases hx)
      have g2 := SR.good_lt hnx hsy hs ha hb (fun x hx => by cases hx) out rfl
      refine .inl ⟨out, hO, g1.2.2, fun x hx => ⟨g1.1 x hx, g2 x hx⟩, fun R' hR' => ?_⟩
      rcases hR R' hR' with e | e
      · exact .inr e
      · exact .inl e
    · refine .inr ⟨A', n', c', hv, hn', fun R' hR' => ?_⟩
      rcases hR R' hR' with e | e
      · exact .inr e
      · exact .inl e
set_option maxRecDepth 100000 in
set_option maxHeartbeats 6400000 in
theorem decompress_any (F : Interp) {w : World} (hF : F.answers w.tape) {D T U S lg H oH NH n c off : Nat} {TH : TypeId} {fh0 f g0 : Nat → Value} {A : Option Addr} {l : List UInt8} {zb : Bool} {sy bt bs : Nat → Nat}
    (hlg : lg = 5 ∨ lg = 6) (hS : 2 ^ lg = S) (hr : RowF w D 98 534 f) (h512 : f 512 = .slice A n c) (h513 : f 513 = .int .i64 (off : Nat)) (hoff : off ≤ n) (hs : Sl w H A n c l) (hn : n ≤ 1000000)
    (h521 : f 521 = .slice (some ⟨U, 0, none⟩) 256 256) (h524 : f 524 = .slice (some ⟨T, 0, none⟩) S S) (h526 : f 526 = .slice (some ⟨H, oH, none⟩) 0 256) (h527 : f 527 = .int .i64 255) (h529 : f 529 = .int .u8 (lg : Nat)) (h530 : f 530 = .bool zb)
    (hT : RowF w T 162 (3 * S) (dcV sy bt bs)) (hU : RowF w U 5 256 g0) (hO : OutA w H oH NH TH fh0 (.slice (some ⟨H, oH, none⟩) 0 256) []) (hHD : H < D) (hDT : D < T) (hTU : T < U)
    (hbt : ∀ i, i < S → bt i ≤ 6) (hnx : ∀ i v, i < S → v < 2 ^ bt i → bs i + v < S) (hsy : ∀ i, i < S → sy i < 256) (hzb : zb = false → ∀ i, i < S → 1 ≤ bt i) (hEof : EofB w H) :
    Calls Tryf.prog 46 #[.pointer (some ⟨D, 0, none⟩)] w (DecPost w D U H oH NH TH fh0 (l.drop off) lg sy bt bs) := by
  have hDl := hr.lt
  have hUl := hU.lt
  have k512 : w.cell? ⟨D, 512, none⟩ = some (.slice A n c) := hr.cellv 512 (by omega) _ h512
  have k513 : w.cell? ⟨D, 513, none⟩ = some (.int .i64 (off : Nat)) := hr.cellv 513 (by omega) _ h513
  have KU := Lib.hid (unread_any hs (by omega) off hoff (off : Int) rfl)
  have HR := Lib.hid hr
  have HF := Lib.hid hF
  have H521 := Lib.hid h521
  have H524 := Lib.hid h524
  have H526 := Lib.hid h526
  have H527 := Lib.hid h527
  have H529 := Lib.hid h529
  have H530 := Lib.hid h530
  have HT := Lib.hid hT
  have HU := Lib.hid hU
  have HO := Lib.hid hO
  have HBT := Lib.hid hbt
  have HNX := Lib.hid hnx
  have HSY := Lib.hid hsy
  have HZB := Lib.hid hzb
  have HEOF := Lib.hid hEof
  have HS2 := Lib.hid hS
  clear hr hF h512 h513 h521 h524 h526 h527 h529 h530 hT hU hO hbt hnx hsy hzb hEof hS hs
  go_enter Tryf.func46, Tryf.ntmps46
  go_wp2_with fail
  refine KU.out.mono ?_
  rintro e w1 ⟨A2, rfl, hsl, hb1⟩
  have ho1 : Only (fun _ => False) w w1 := Only.of_below hb1 (fun k hk _ => hk)
  obtain ⟨l2, hl2⟩ : ∃ l2, l.drop off = l2 := ⟨_, rfl⟩
  obtain ⟨n2, hn2⟩ : ∃ n2, n - off = n2 := ⟨_, rfl⟩
  obtain ⟨c2, hc2⟩ : ∃ c2, c - off = c2 := ⟨_, rfl⟩
  rw [hl2, hn2, hc2] at hsl
  rw [hl2, hn2, hc2]
  have hr1 := ho1.row HR.out (fun e => e)
  have hsD : Sl w1 D A2 n2 c2 l2 := hsl.more (Nat.le_of_lt hHD)
  have HR1 := Lib.hid hr1
  have HSL := Lib.hid hsl
  have HO1 := Lib.hid ho1
  by_cases hbad : l2 = [] ∨ lastB l2 = 0
  · have KI := Lib.hid (brInit_bad hr1 (o := 514) (by omega) hsD hbad)
    have HBAD := Lib.hid hbad
    have HL2 := Lib.hid hl2
    clear hsl hb1 ho1 hr1 hsD hbad hl2 hn2 hc2 k512 k513
    go_wp2_with fail
    refine KI.out.mono ?_
    rintro e w2 ⟨⟨b, s, rfl, hc⟩, ho2⟩
    have HC := Lib.hid hc
    have HO2 := Lib.hid ho2
    clear hc ho2
    go_wp2_with fail
    go_ret
    rw [HL2.out]
    refine ⟨(HO1.out.mono fun _ e => e.elim).trans (HO2.out.mono fun _ e => .inl e), (HO.out.keepH.only HO1.out (fun e => e)).only HO2.out (by omega), .inl ⟨⟨⟨b, 0, none⟩, s, rfl, HC.out, fun e => by cases e⟩, ?_⟩⟩
    rintro R (⟨_, e⟩ | ⟨h1, h2, _⟩ | ⟨h1, h2, _⟩)
    · exact .inl e
    · rcases HBAD.out with e | e
      · exact absurd e h1
      · exact absurd e h2
    · rcases HBAD.out with e | e
      · exact absurd e h1
      · exact absurd e h2
  · have hne : l2 ≠ [] := fun e => hbad (.inl e)
    have hla : lastB l2 ≠ 0 := fun e => hbad (.inr e)
    have KI := Lib.hid (brInit_good hr1 (o := 514) (by omega) hsD (by omega) hne hla)
    have HNE := Lib.hid hne
    have HLA := Lib.hid hla
    have hnn : n2 ≤ 1000000 := by omega
    have HL2 := Lib.hid hl2
    clear hsl hb1 ho1 hr1 hsD hbad hl2 hn2 hc2 k512 k513 hne hla
    go_wp2_with fail
    refine KI.out.mono ?_
    rintro e w2 ⟨rfl, off2, rd, hb2, hL, hP⟩
    have HB2 := Lib.hid hb2
    have HL := Lib.hid hL
    have HP := Lib.hid hP
    clear hb2 hL hP
    go_upto_region 6 with fail
    rename_i K6 K6Q
    have HK6 := Lib.hid K6Q
    clear K6Q
    have hb3 := (HB2.out.allocN (.cells #[.int .u16 0, .pointer none, .slice none 0 0] 167)).allocN (.cells #[.int .u16 0, .pointer none, .slice none 0 0] 167)
    have ho3 : Only (· = D) w ((w2.alloc (.cells #[.int .u16 0, .pointer none, .slice none 0 0] 167)).alloc (.cells #[.int .u16 0, .pointer none, .slice none 0 0] 167)) := (((HO1.out.mono fun _ e => e.elim).trans HB2.out.only).alloc _).alloc _
    have hG2 : RowF ((w2.alloc (.cells #[.int .u16 0, .pointer none, .slice none 0 0] 167)).alloc (.cells #[.int .u16 0, .pointer none, .slice none 0 0] 167)) (w2.heap.size + 1) 167 3 (fun k => (#[.int .u16 0, .pointer none, .slice none 0 0] : Array Value).getD k undef) := by
      have h := RowF.new (w2.alloc (.cells #[.int .u16 0, .pointer none, .slice none 0 0] 167)) #[.int .u16 0, .pointer none, .slice none 0 0] 167 (fun k => (#[.int .u16 0, .pointer none, .slice none 0 0] : Array Value).getD k undef) (getD_run3 _)
      simpa using h
    have hG1 : RowF ((w2.alloc (.cells #[.int .u16 0, .pointer none, .slice none 0 0] 167)).alloc (.cells #[.int .u16 0, .pointer none, .slice none 0 0] 167)) w2.heap.size 167 3 (fun k => (#[.int .u16 0, .pointer none, .slice none 0 0] : Array Value).getD k undef) := by
      have h := RowF.new w2 #[.int .u16 0, .pointer none, .slice none 0 0] 167 (fun k => (#[.int .u16 0, .pointer none, .slice none 0 0] : Array Value).getD k undef) (getD_run3 _)
      exact h.alloc _
    have hsz2 : w.heap.size ≤ w2.heap.size := Nat.le_trans HO1.out.size HB2.out.only.size
    obtain ⟨g1, hg1⟩ : ∃ g1, w2.heap.size = g1 := ⟨_, rfl⟩
    rw [hg1] at hG1 hG2 hsz2 ⊢
    generalize hw3 : World.alloc (World.alloc w2 _) _ = w3 at hb3 ho3 hG1 hG2 ⊢
    obtain ⟨g2, hg2⟩ : ∃ g2, g1 + 1 = g2 := ⟨_, rfl⟩
    rw [hg2] at hG2 ⊢
    have hrow : ∃ fD, RowF w3 D 98 534 fD ∧ fD 524 = .slice (some ⟨T, 0, none⟩) S S ∧ fD 529 = .int .u8 (lg : Nat) := by
      obtain ⟨fq, val, hr, hk, _⟩ := hb3
      exact ⟨fq, hr, by rw [hk 524 (by omega) (by omega) (by omega), updV_ne _ _ _ _ (by omega)]; exact H524.out, by rw [hk 529 (by omega) (by omega) (by omega), updV_ne _ _ _ _ (by omega)]; exact H529.out⟩
    obtain ⟨fD, hrD, e524, e529⟩ := hrow
    have k524 : w3.cell? ⟨D, 524, none⟩ = some (.slice (some ⟨T, 0, none⟩) S S) := hrD.cellv 524 (by omega) _ e524
    have k529 : w3.cell? ⟨D, 529, none⟩ = some (.int .u8 (lg : Nat)) := hrD.cellv 529 (by omega) _ e529
    have HG1 := Lib.hid hG1
    have HG2 := Lib.hid hG2
    have HB3 := Lib.hid hb3
    have HO3 := Lib.hid ho3
    have KI1 := Lib.hid (init1 (T := T) hlg HS2.out (hb3.drewB 1) HP.out (hG1.drewN 1) (show D ≠ g1 by omega))
    clear hb3 ho3 hG1 hG2 hw3 hg1 hrD e524 e529 HB2 HR1
    refine wp_region_quiet_tail 9 (by kernel_rfl) (by kernel_rfl) ?_
    simp only [List.take_succ_cons, List.take_zero, List.drop_succ_cons, List.drop_zero]
    repeat (go_big_quiet_step (fail))
    refine wpQuiet_nil ?_
    go_wp2_with fail
    refine KI1.out.mono ?_
    rintro e w5 ⟨rfl, a1, ha1, hg5, ho5, hi1⟩
    have hO5 : Only (· = D) w w5 := (HO3.out.drewN 1).join ho5 (fun k hk e => by omega)
    have hG25 := ho5.row (HG2.out.drewN 1) (by omega)
    have HA1 := Lib.hid ha1
    have HG5 := Lib.hid hg5
    have HO5 := Lib.hid hO5
    have HG25 := Lib.hid hG25
    have HI1 := Lib.hid hi1
    have HRD64 := Lib.hid HB3.out.rd64
    clear ha1 hg5 ho5 hO5 hG25 hi1 k524 k529 HB3 HO3 HG1 HG2
    go_wp2_with fail
    refine HK6.out _ _ ?_
    clear HK6
    go_upto_region 7 with fail
    rename_i K7 K7Q
    have HK7 := Lib.hid K7Q
    clear K7Q
    have hrow : ∃ fD, RowF w5 D 98 534 fD ∧ fD 524 = .slice (some ⟨T, 0, none⟩) S S ∧ fD 529 = .int .u8 (lg : Nat) := by
      have key : ∀ fq, BrKeep 514 (updV f 514 (.slice A2 n2 c2)) fq → fq 524 = .slice (some ⟨T, 0, none⟩) S S ∧ fq 529 = .int .u8 (lg : Nat) := fun fq hk => ⟨by rw [hk 524 (by omega) (by omega) (by omega), updV_ne _ _ _ _ (by omega)]; exact H524.out, by rw [hk 529 (by omega) (by omega) (by omega), updV_ne _ _ _ _ (by omega)]; exact H529.out⟩
      rcases HI1.out with ⟨_, ⟨fq, val, hr, hk, _⟩, _⟩ | ⟨_, rd1, _, ⟨fq, val, hr, hk, _⟩ | ⟨_, fq, val, hr, hk, _⟩⟩
      · exact ⟨fq, hr, key fq hk⟩
      · exact ⟨fq, hr, key fq hk⟩
      · exact ⟨fq, hr, key fq hk⟩
    obtain ⟨fD, hrD, e524, e529⟩ := hrow
    have k524 : w5.cell? ⟨D, 524, none⟩ = some (.slice (some ⟨T, 0, none⟩) S S) := hrD.cellv 524 (by omega) _ e524
    have k529 : w5.cell? ⟨D, 529, none⟩ = some (.int .u8 (lg : Nat)) := hrD.cellv 529 (by omega) _ e529
    have KI2 := Lib.hid (init2 (T := T) hlg HS2.out HP.out HRD64.out (HI1.out.drewN 1) (HG25.out.drewN 1) (show D ≠ g2 by omega))
    clear hrD e524 e529
    refine wp_region_quiet_tail 9 (by kernel_rfl) (by kernel_rfl) ?_
    simp only [List.take_succ_cons, List.take_zero, List.drop_succ_cons, List.drop_zero]
    repeat (go_big_quiet_step (fail))
    refine wpQuiet_nil ?_
    go_wp2_with fail
    refine KI2.out.mono ?_
    rintro e w6 ⟨rfl, a2, ha2, hg6, ho6, hi2⟩
    have hO6 : Only (· = D) w w6 := (HO5.out.drewN 1).join ho6 (fun k hk e => by omega)
    have hg16 := ho6.row (HG5.out.drewN 1) (by omega)
    have HA2 := Lib.hid ha2
    have HG6 := Lib.hid hg6
    have HO6 := Lib.hid hO6
    have HG16 := Lib.hid hg16
    have HI2 := Lib.hid hi2
    clear ha2 hg6 ho6 hO6 hg16 hi2 k524 k529 HI1 HG5 HG25 HO5
    go_wp2_with fail
    refine HK7.out _ _ ?_
    clear HK7
    have E : DcE D U T S g1 g2 H sy bt bs := ⟨hHD, hDT, hTU, by omega, by omega, by rw [← HS2.out]; rcases hlg with e | e <;> subst e <;> decide, HBT.out, HNX.out, HSY.out⟩
    have hO6 := HO6.out
    have hM : DcM w D U T S g1 g2 H (w6.heap[H]?) A2 n2 c2 l2 sy bt bs a1 a2 [] w6 := by
      refine ⟨hO6.row HT.out (by omega), HG16.out, HG6.out, ⟨g0, hO6.row HU.out (by omega), fun k hk => absurd hk (Nat.not_lt_zero k)⟩, ?_, by omega, hO6.mono fun _ e => .inl e, rfl⟩
      refine (HSL.out).keep fun b o hb => ?_
      exact World.cell?_of_block ((hO6.block b (by omega) (by omega)).trans (HO1.out.block b (fun e => e) (by omega)).symm)
    have h526 : updV f 514 (.slice A2 n2 c2) 526 = .slice (some ⟨H, oH, none⟩) 0 256 := by rw [updV_ne _ _ _ _ (by omega)]; exact H526.out
    have h527 : updV f 514 (.slice A2 n2 c2) 527 = .int .i64 255 := by rw [updV_ne _ _ _ _ (by omega)]; exact H527.out
    have h521 : updV f 514 (.slice A2 n2 c2) 521 = .slice (some ⟨U, 0, none⟩) 256 256 := by rw [updV_ne _ _ _ _ (by omega)]; exact H521.out
    have h530 : updV f 514 (.slice A2 n2 c2) 530 = .bool zb := by rw [updV_ne _ _ _ _ (by omega)]; exact H530.out
    have hOA : OutA w6 H oH NH TH fh0 (.slice (some ⟨H, oH, none⟩) 0 256) [] := HO.out.same (hO6.block H (by omega) (by omega))
    have hZ : ∀ w', w'.heap[H]? = w6.heap[H]? → OutA w' H oH NH TH fh0 (.slice (some ⟨H, oH, none⟩) 0 256) [] := fun w' e => hOA.same e
    have hend : ∀ R, (∀ R', DR l2 lg sy bt bs R' → R' = .open_ ∨ R' = R) → (R = .open_ ∨ ∃ L, SR sy bt bs l2 L a1 a2 [] R) → ∀ F' w', DlFin w D U H oH NH TH fh0 R F' w' → bodyPost Tryf.prog Tryf.f46 (DecPost w D U H oH NH TH fh0 (l.drop off) lg sy bt bs) .ret F' w' := by
      intro R hR hsr F' w' hfin
      have hp := hfin.post HNX.out HSY.out HA1.out HA2.out hR hsr
      rw [HL2.out]
      rw [dl_ret (dl_any hfin.1 hfin.2.1)]
      go_ret
      exact hp
    have hnb : ¬ (l2 = [] ∨ lastB l2 = 0) := fun e => e.elim HNE.out HLA.out
    rcases HI2.out with ⟨hLL, hb, e1, e2⟩ | ⟨hLL, rd2, h64, hb | ⟨_, hb⟩⟩
    · obtain ⟨R, hsr⟩ := SR.some sy bt bs l2 256 (leftB off2 (rd + lg + lg)) a1 a2 [] (by simp)
      refine dl_m F HF.out E hnn h527 HEOF.out HZB.out ⟨hb, hM, HA1.out, HA2.out, hsr⟩ h521 h530 h526 hZ _ _ _ _ _ _ _ _ _ _ _ _ _ _ _ _ _ _ _ _ _ _ _ _ _ _ _ _ _ _ _ _ _ _ _ _ _ _ _ _ _ _ _ _ _ _ _ _ _ _ _ _ _ _ _ _ _ _ _ _ _ _ _ _ _ _ _ _ _ _ _ _ _ _ _ _ _ _ _ _ _ _ _ _ _ _ _ _ _ _ _ _ _ _ _ _ _ _ _ _ _ _ _ _ _ _ _ _ _ _ _ _ _ _ _ _ _ _ _ _ _ _ _ _ _ _ _ _ _ _ _ _ _ _ _ _ _ _ _ _ _ _ _ _ _ _ _ _ _ _ _ _ _ _ _ _ _ _ _ _ _ _ _ _ _ _ _ _ _ _ _ _ _ _ _ _ _ _ _ _ _ _ _ _ _ _ _ _ _ _ _ _ _ _ _ _ _ _ _ _ _ _ _ _ _ _ _ _ _ _ _ _ _ _ _ _ _ _ _ _ _ _ _ _ _ _ _ _ _ _ _ _ _ _ _ _ _ _ _ _ _ _ _ _ _ _ _ _ _ _ _ _ _ _ _ _ _ _ _ _ _ _ (hend R ?_ (.inr ⟨_, hsr⟩))
      rintro R' (⟨h, _⟩ | ⟨_, _, _, e⟩ | ⟨_, _, _, hs'⟩)
      · exact absurd h hnb
      · exact .inl e
      · right
        rw [← HL.out, ← e1, ← e2] at hs'
        refine hs'.det ?_
        rw [show leftB off2 rd - 2 * lg = leftB off2 (rd + lg + lg) by
          have := hb.rd64
          unfold leftB
          omega]
        exact hsr
    · obtain ⟨R, hsr⟩ := SR.some sy bt bs l2 256 (leftB 0 rd2) a1 a2 [] (by simp)
      refine dl_m F HF.out E hnn h527 HEOF.out HZB.out ⟨hb, hM, HA1.out, HA2.out, hsr⟩ h521 h530 h526 hZ _ _ _ _ _ _ _ _ _ _ _ _ _ _ _ _ _ _ _ _ _ _ _ _ _ _ _ _ _ _ _ _ _ _ _ _ _ _ _ _ _ _ _ _ _ _ _ _ _ _ _ _ _ _ _ _ _ _ _ _ _ _ _ _ _ _ _ _ _ _ _ _ _ _ _ _ _ _ _ _ _ _ _ _ _ _ _ _ _ _ _ _ _ _ _ _ _ _ _ _ _ _ _ _ _ _ _ _ _ _ _ _ _ _ _ _ _ _ _ _ _ _ _ _ _ _ _ _ _ _ _ _ _ _ _ _ _ _ _ _ _ _ _ _ _ _ _ _ _ _ _ _ _ _ _ _ _ _ _ _ _ _ _ _ _ _ _ _ _ _ _ _ _ _ _ _ _ _ _ _ _ _ _ _ _ _ _ _ _ _ _ _ _ _ _ _ _ _ _ _ _ _ _ _ _ _ _ _ _ _ _ _ _ _ _ _ _ _ _ _ _ _ _ _ _ _ _ _ _ _ _ _ _ _ _ _ _ _ _ _ _ _ _ _ _ _ _ _ _ _ _ _ _ _ _ _ _ _ _ _ _ _ (hend R ?_ (.inr ⟨_, hsr⟩))
      rintro R' (⟨h, _⟩ | ⟨_, _, _, e⟩ | ⟨_, _, h2, _⟩)
      · exact absurd h hnb
      · exact .inl e
      · have := HL.out; omega
    · refine dl_md F HF.out E hnn h527 HEOF.out ⟨by rw [updV_self _ _ h526]; exact hb, ⟨_, hM⟩, hOA, HA1.out, HA2.out⟩ rfl h521 h530 _ _ _ _ _ _ _ _ _ _ _ _ _ _ _ _ _ _ _ _ _ _ _ _ _ _ _ _ _ _ _ _ _ _ _ _ _ _ _ _ _ _ _ _ _ _ _ _ _ _ _ _ _ _ _ _ _ _ _ _ _ _ _ _ _ _ _ _ _ _ _ _ _ _ _ _ _ _ _ _ _ _ _ _ _ _ _ _ _ _ _ _ _ _ _ _ _ _ _ _ _ _ _ _ _ _ _ _ _ _ _ _ _ _ _ _ _ _ _ _ _ _ _ _ _ _ _ _ _ _ _ _ _ _ _ _ _ _ _ _ _ _ _ _ _ _ _ _ _ _ _ _ _ _ _ _ _ _ _ _ _ _ _ _ _ _ _ _ _ _ _ _ _ _ _ _ _ _ _ _ _ _ _ _ _ _ _ _ _ _ _ _ _ _ _ _ _ _ _ _ _ _ _ _ _ _ _ _ _ _ _ _ _ _ _ _ _ _ _ _ _ _ _ _ _ _ _ _ _ _ _ _ _ _ _ _ _ _ _ _ _ _ _ _ _ _ _ _ _ _ _ _ _ _ _ _ _ _ _ _ _ _ (hend .open_ ?_ (.inl rfl))
      rintro R' (⟨h, _⟩ | ⟨_, _, _, e⟩ | ⟨_, _, h2, _⟩)
      · exact absurd h hnb
      · exact .inl e
      · have := HL.out; omega
end Go.Proofs.YthkklojjpgjiiaaFmt
namespace Go.Proofs.YthkklojjpgjiiaaFmt
open Go.RowKit Go.Extern.Stop Go.Stop Go.Extern

/-- what Decompress hands back -/
def FsePost (w : World) (D H oH NH : Nat) (TH : TypeId) (fh0 : Nat → Value) (l : List UInt8) (e : Ending) (w' : World) : Prop :=
  Only (fun k => k = D ∨ k = H) w w' ∧ (∃ f', RowF w' D 98 534 f') ∧ HKeep H oH NH TH fh0 w' ∧
    ((∃ (b : Addr) (s : ByteArray), e = .returned (.tuple #[.slice none 0 0, .iface 107 (.pointer (some b))]) ∧ w'.cell? b = some (.string s) ∧ b ≠ ⟨D, 526, none⟩ ∧ ∀ R, EncR l R → R = .refused ∨ R = .open_) ∨
     (∃ v, e = .returned (.tuple #[v, .nilIface]) ∧
       ((∃ out, OutA w' H oH NH TH fh0 v out ∧ out.length ≤ 255 ∧ (∀ x ∈ out, 0 ≤ x ∧ x < 256) ∧ ∀ R, EncR l R → R = .good out ∨ R = .open_) ∨
        (∃ A' n' c', v = .slice A' n' c' ∧ 255 < n' ∧ ∀ R, EncR l R → R = .refused ∨ R = .open_))))
theorem numF4 (x : Nat) (h : x ≤ 1) : (x + 5 = 5 ∨ x + 5 = 6) := by omega
set_option maxRecDepth 100000 in
set_option maxHeartbeats 3200000 in
theorem fseDec_any (F : Interp) {w : World} (hF : F.answers w.tape) {D H oH NH n c : Nat} {TH : TypeId} {fh0 f : Nat → Value} {A : Option Addr} {l : List UInt8} (hr : RowF w D 98 534 f)
    (h532 : f 532 = .int .u8 0) (h533 : f 533 = .int .u8 0) (h526 : f 526 = .slice (some ⟨H, oH, none⟩) 256 256) (h531 : f 531 = .bool false) (h527 : f 527 = .int .i64 255) (h524 : f 524 = .slice none 0 0) (h521 : f 521 = .slice none 0 0) (h522 : f 522 = .slice none 0 0)
    (hs : Sl w H A n c l) (hn : n ≤ 127) (hlog : numF l 0 4 ≤ 1) (hO : OutA w H oH NH TH fh0 (.slice (some ⟨H, oH, none⟩) 0 256) []) (hHD : H < D) (hEof : EofB w H) :
    Calls Tryf.prog 24 #[.slice A n c, .pointer (some ⟨D, 0, none⟩)] w (FsePost w D H oH NH TH fh0 l) := by
  have hnl := hs.len
  have hDl := hr.lt
  have hHl : H < w.heap.size := by omega
  have HRW : Hid (∃ f, RowF w D 98 534 f) := Lib.hid ⟨f, hr⟩
  have KP := Lib.hid (fsePrep_any (n := n) (c := c) (A := A) hr h532 h533 h526 h531 h527)
  have HF := Lib.hid hF
  have HS := Lib.hid hs
  have HO := Lib.hid hO
  have HEOF := Lib.hid hEof
  have HLOG := Lib.hid hlog
  have H526 := Lib.hid h526
  have H527 := Lib.hid h527
  have H524 := Lib.hid h524
  have H521 := Lib.hid h521
  have H522 := Lib.hid h522
  have HNL := Lib.hid hnl
  clear hr h532 h533 h526 h531 h527 h524 h521 h522 hs hlog hO hEof hF hnl
  go_enter Tryf.func24, Tryf.ntmps24
  go_wp2_with fail
  refine KP.out.mono ?_
  rintro e w1 ⟨rfl, hr1, ho1⟩
  have q526 : w1.cell? ⟨D, 526, none⟩ = some (.slice (some ⟨H, oH, none⟩) 256 256) := hr1.cellv 526 (by omega) _ (by rw [updV_ne _ _ _ _ (by omega), updV_ne _ _ _ _ (by omega), updV_ne _ _ _ _ (by omega), updV_ne _ _ _ _ (by omega)]; exact H526.out)
  have z526 := hr1.frozen 526
  have hr2 := hr1.set_ 526 (.slice (some ⟨H, oH, none⟩) 0 256)
  have ho2 := ho1.set_ (p := ⟨D, 526, none⟩) rfl (.slice (some ⟨H, oH, none⟩) 0 256)
  have HR2 := Lib.hid hr2
  have HO2 := Lib.hid ho2
  clear hr1 ho1 hr2 ho2
  go_upto_region 5 with fail
  generalize hw2 : World.setCell w1 _ _ = w2
  have hr2 := HR2.out
  have ho2 := HO2.out
  rw [hw2] at hr2 ho2
  clear HR2 HO2 hw2 q526 z526
  have hs2 : Sl w2 H A n c l := HS.out.keep fun b o hb => World.cell?_of_block (ho2.block b (by omega) (by omega))
  have KN := Lib.hid (readNCount_any F (by show F.answers w2.tape; rw [ho2.tape]; exact HF.out) hr2 (by rw [updV_ne _ _ _ _ (by omega), updV_ne _ _ _ _ (by omega), updV_same]) (by rw [updV_ne _ _ _ _ (by omega), updV_same]; rfl) (hs2.more (Nat.le_of_lt hHD)) hn (fun _ => HLOG.out))
  have HR2 := Lib.hid hr2
  have HO2 := Lib.hid ho2
  clear hr2 ho2 hs2
  go_wp2_with fail
  refine KN.out.mono ?_
  rintro e w3 (⟨⟨b, s, rfl, hc⟩, ho3, hlink⟩ | ⟨rfl, out, off, f3, hr3, ho3, hk3, h513, h528, h529, hcs, hle, hsum, hlen2, hlen, hoff, hlink⟩)
  · have HC := Lib.hid hc
    have hO3 := HO2.out.trans ho3
    have HO3 := Lib.hid hO3
    have HLK := Lib.hid hlink
    clear hc ho3 hlink hO3
    go_wp2_with fail
    go_ret2
    exact ⟨HO3.out.mono fun _ e => .inl e, HO3.out.rows D hDl _ _ HRW.out, HO.out.keepH.only HO3.out (by omega), .inl ⟨⟨b, 0, none⟩, s, rfl, HC.out, (fun e => by cases e), fun R hR => hR.early HLK.out⟩⟩
  · obtain ⟨lg, hlg⟩ : ∃ lg, numF l 0 4 + 5 = lg := ⟨_, rfl⟩
    have hcase := lg_cases (numF l 0 4) HLOG.out
    have hlink2 : ∀ R, TopR l R → (off = l.length ∧ LostR l R) ∨ ∃ i, R = some (out, i) ∧ off = (i + 7) / 8 := by rw [HNL.out]; exact hlink
    rw [hlg] at hcase h529 hsum
    have hO3 := HO2.out.trans ho3
    have k3 : ∀ k, k ≠ 513 → k ≠ 528 → k ≠ 529 → 512 ≤ k → k ≠ 526 → k ≠ 512 → k ≠ 533 → k ≠ 532 → f3 k = f k := fun k a1 a2 a3 a4 a5 a6 a7 a8 => by
      rw [hk3 k a1 a2 a3 (.inr a4), updV_ne _ _ _ _ a5, updV_ne _ _ _ _ a1, updV_ne _ _ _ _ a6, updV_ne _ _ _ _ a7, updV_ne _ _ _ _ a8]
    have e526 : f3 526 = .slice (some ⟨H, oH, none⟩) 0 256 := by rw [hk3 526 (by omega) (by omega) (by omega) (.inr (by omega)), updV_same]
    have e512 : f3 512 = .slice A n c := by rw [hk3 512 (by omega) (by omega) (by omega) (.inr (by omega)), updV_ne _ _ _ _ (by omega), updV_ne _ _ _ _ (by omega), updV_same]
    have e527 : f3 527 = .int .i64 255 := by rw [k3 527 (by omega) (by omega) (by omega) (by omega) (by omega) (by omega) (by omega) (by omega)]; exact H527.out
    have KB := Lib.hid (buildDtable_any F (S := 2 ^ lg) (by show F.answers w3.tape; rw [hO3.tape]; exact HF.out) hcase hr3 rfl hlen hle hsum hcs h528 h529
      (by rw [k3 524 (by omega) (by omega) (by omega) (by omega) (by omega) (by omega) (by omega) (by omega)]; exact H524.out)
      (by rw [k3 521 (by omega) (by omega) (by omega) (by omega) (by omega) (by omega) (by omega) (by omega)]; exact H521.out)
      (by rw [k3 522 (by omega) (by omega) (by omega) (by omega) (by omega) (by omega) (by omega) (by omega)]; exact H522.out))
    have HO3 := Lib.hid hO3
    have HLK := Lib.hid hlink2
    have E526 := Lib.hid e526
    have E512 := Lib.hid e512
    have E527 := Lib.hid e527
    have E513 := Lib.hid h513
    have E529 := Lib.hid h529
    have HLE := Lib.hid hle
    have HSUM := Lib.hid hsum
    have HLEN := Lib.hid hlen
    have HOFF := Lib.hid hoff
    have HLG := Lib.hid hlg
    have HCASE := Lib.hid hcase
    clear hr3 ho3 hk3 h513 h528 h529 hcs hle hsum hlen2 hlen hoff hlink hlink2 hcase hO3 k3 e526 e512 e527 hlg
    go_wp2_with fail
    refine KB.out.mono ?_
    rintro e w4 (⟨⟨b, s, rfl, hc⟩, hloop, ho4⟩ | ⟨rfl, hnl, fa, zb, hka, h524, h521, hzb, hdr, hdT, hdU, hdN, ho4⟩)
    · have HC := Lib.hid hc
      have hO4 := HO3.out.trans ho4
      have HO4 := Lib.hid hO4
      have HLP := Lib.hid hloop
      clear hc ho4 hloop hO4
      go_wp2_with fail
      go_ret2
      exact ⟨HO4.out.mono fun _ e => .inl e, HO4.out.rows D hDl _ _ HRW.out, HO.out.keepH.only HO4.out (by omega), .inl ⟨⟨b, 0, none⟩, s, rfl, HC.out, (fun e => by cases e), fun R hR => hR.turns HLG.out HLK.out HLP.out⟩⟩
    · have hO4 := HO3.out.trans ho4
      obtain ⟨h, hh⟩ : ∃ h, w3.heap.size = h := ⟨_, rfl⟩
      rw [hh] at h524 h521 hdT hdU
      have hwh : w.heap.size ≤ h := by rw [← hh]; exact HO3.out.size
      have hbts : ∀ i, i < 2 ^ lg → bitsF out lg i ≤ 6 := fun i hi => by
        have := (next_lt out lg (2 ^ lg) i 0 HCASE.out HLE.out HSUM.out HLEN.out hi (Nat.two_pow_pos _)).2.1
        rcases HCASE.out with ⟨e, _⟩ | ⟨e, _⟩ <;> omega
      have hsyl : ∀ i, i < 2 ^ lg → symF out (2 ^ lg) i < 256 := fun i hi => by
        have := (sym_ok out (2 ^ lg) HLE.out HSUM.out (by rcases HCASE.out with ⟨_, e⟩ | ⟨_, e⟩ <;> omega) i hi).1
        have := HLEN.out
        omega
      have KD := Lib.hid (decompress_any F (w := w4) (by show F.answers w4.tape; rw [hO4.tape]; exact HF.out) (D := D) (T := h) (U := h + 1) (S := 2 ^ lg) (lg := lg) (H := H) (oH := oH) (NH := NH) (n := n) (c := c) (off := off) (TH := TH) (fh0 := fh0) (A := A) (l := l) (zb := zb) (sy := symF out (2 ^ lg)) (bt := bitsF out lg) (bs := baseF out lg)
        (by rcases HCASE.out with ⟨e, _⟩ | ⟨e, _⟩ <;> omega) rfl hdr
        (by rw [updV_ne _ _ _ _ (by omega), hka 512 (by omega) (by omega) (by omega)]; exact E512.out)
        (by rw [updV_ne _ _ _ _ (by omega), hka 513 (by omega) (by omega) (by omega)]; exact E513.out) HOFF.out
        (HS.out.keep fun b o hb => World.cell?_of_block (hO4.block b (by omega) (by omega))) (by omega)
        (by rw [updV_ne _ _ _ _ (by omega)]; exact h521) (by rw [updV_ne _ _ _ _ (by omega)]; exact h524)
        (by rw [updV_ne _ _ _ _ (by omega), hka 526 (by omega) (by omega) (by omega)]; exact E526.out)
        (by rw [updV_ne _ _ _ _ (by omega), hka 527 (by omega) (by omega) (by omega)]; exact E527.out)
        (by rw [updV_ne _ _ _ _ (by omega), hka 529 (by omega) (by omega) (by omega)]; exact E529.out) (updV_same _ _ _)
        hdT hdU (HO.out.same (hO4.block H (by omega) (by omega))) hHD (by omega) (by omega) hbts
        (fun i v hi hv => (next_lt out lg (2 ^ lg) i v HCASE.out HLE.out HSUM.out HLEN.out hi hv).1) hsyl
        (fun e i hi => bits_one HCASE.out HLE.out HSUM.out HLEN.out (hzb e) i hi)
        (HEOF.out.keep hO4 (fun k hk e => by omega)))
      have HO4 := Lib.hid hO4
      have HH := Lib.hid hwh
      clear hnl hka h524 h521 hzb hdr hdT hdU hdN ho4 hO4 hbts hsyl hh hwh
      go_wp2_with fail
      refine KD.out.mono ?_
      rintro e w5 ⟨ho5, hkp5, hc5⟩
      have hO5 : Only (fun k => k = D ∨ k = H) w w5 := (HO4.out.mono fun _ e => .inl e).join ho5 (fun k hk e => by have := HH.out; omega)
      have HO5 := Lib.hid hO5
      have hdr5 := hO5.rows D hDl _ _ HRW.out
      have HDR5 := Lib.hid hdr5
      have HKP5 := Lib.hid hkp5
      clear ho5 hO5 hdr5 hkp5
      rcases hc5 with ⟨⟨b, s, rfl, hc, hne⟩, hR⟩ | ⟨rfl, f5, v, hr5, h526, hcc⟩
      · have HC := Lib.hid hc
        have HRR := Lib.hid hR
        have HNE := Lib.hid hne
        clear hc hR hne
        go_wp2_with fail
        go_ret2
        refine ⟨HO5.out, HDR5.out, HKP5.out, .inl ⟨b, s, rfl, HC.out, HNE.out, fun R hR => ?_⟩⟩
        rcases hR.dr HLG.out HLK.out with e | e
        · exact .inr e
        · exact HRR.out R e
      · have hv : ∃ A' n' c', v = .slice A' n' c' := by
          rcases hcc with ⟨out', hO', _⟩ | ⟨A', n', c', e, _⟩
          · exact ⟨_, _, _, hO'.1⟩
          · exact ⟨_, _, _, e⟩
        obtain ⟨A', n', c', rfl⟩ := hv
        have k526 : w5.cell? ⟨D, 526, none⟩ = some (.slice A' n' c') := hr5.cellv 526 (by omega) _ h526
        have HCC := Lib.hid hcc
        clear hr5 h526 hcc
        go_wp2_with fail
        go_ret2
        refine ⟨HO5.out, HDR5.out, HKP5.out, .inr ⟨_, rfl, ?_⟩⟩
        rcases HCC.out with ⟨out', h1, h2, h3, h4⟩ | ⟨A2, n2, c2, h1, h2, h3⟩
        · refine .inl ⟨out', h1, h2, h3, fun R hR => ?_⟩
          rcases hR.dr HLG.out HLK.out with e | e
          · exact .inr e
          · exact h4 R e
        · refine .inr ⟨A2, n2, c2, h1, h2, fun R hR => ?_⟩
          rcases hR.dr HLG.out HLK.out with e | e
          · exact .inr e
          · exact h3 R e
end Go.Proofs.YthkklojjpgjiiaaFmt
