/-
  fse.bitReader and fse.decoder where more bits were asked for than there are. Conditions: those of each.
  fse.decompress: what is told of the memory while symbols are read; one symbol more. Definitions and plain lemmas; conditions: those of each.
-/
import Derived.Test.YthkklojjpgjiiaaFmtHuffT31
namespace Go.Proofs.YthkklojjpgjiiaaFmt
open Go.RowKit Go.Extern.Stop Go.Stop Go.Extern

/-- a bit reader that has gone beyond its bits -/
def BrDead (w : World) (D : Nat) (T : TypeId) (N o : Nat) (A : Option Addr) (n c : Nat) (f0 : Nat → Value) (rd : Nat) (w0 : World) : Prop :=
  ∃ f val, RowF w D T N f ∧ BrKeep o f0 f ∧ BrSt f o A n c 0 val rd ∧ val < 2 ^ 64 ∧ 64 < rd ∧ rd ≤ 127 ∧ Only (· = D) w0 w
section
variable {w w0 : World} {D N o : Nat} {T : TypeId} {A : Option Addr} {n c off rd : Nat} {l : List UInt8} {f0 : Nat → Value}
theorem BrDead.base (h : BrDead w D T N o A n c f0 rd w0) : BrDead w D T N o A n c f0 rd w := by
  obtain ⟨f, val, hr, hk, hs, hb, h1, h2, hon⟩ := h
  exact ⟨f, val, hr, hk, hs, hb, h1, h2, Only.refl _ _⟩
theorem BrDead.only (h : BrDead w D T N o A n c f0 rd w0) : Only (· = D) w0 w := by
  obtain ⟨f, val, hr, hk, hs, hb, h1, h2, hon⟩ := h
  exact hon
theorem BrDead.drewN (h : BrDead w D T N o A n c f0 rd w0) (q : Nat) : BrDead (w.drewN q) D T N o A n c f0 rd w0 := by
  obtain ⟨f, val, hr, hk, hs, hb, h1, h2, hon⟩ := h
  exact ⟨f, val, hr.drewN q, hk, hs, hb, h1, h2, hon.drewN q⟩
theorem BrDead.otherSet (h : BrDead w D T N o A n c f0 rd w0) {p : Addr} (hp : p.block ≠ D) (v : Value) : BrDead (w.setCell p v) D T N o A n c f0 rd (w.setCell p v) := by
  obtain ⟨f, val, hr, hk, hs, hb, h1, h2, hon⟩ := h
  exact ⟨f, val, hr.other v hp, hk, hs, hb, h1, h2, Only.refl _ _⟩
set_option maxRecDepth 100000 in
set_option maxHeartbeats 1600000 in
/-- more bits are asked for than there are -/
theorem getBits_over (h : BrIn w D T N o A n c l f0 0 rd w0) (ho : o + 3 < N) (m : Nat) (hm2 : m ≤ 16) (hm : 64 - rd < m) (hrd : rd < 64) :
    Calls Tryf.prog 74 #[.pointer (some ⟨D, o, none⟩), .int .u8 (m : Nat)] w fun e w' => ∃ v, v < 2 ^ m ∧ e = .returned (.int .u16 (v : Nat)) ∧ BrDead w' D T N o A n c f0 (rd + m) w0 := by
  obtain ⟨f, val, hr, hk, hs, hb, hon⟩ := h
  have q2 : w.cell? ⟨D, o + 2, none⟩ = some (.int .u64 (val : Nat)) := hr.cellv _ (by omega) _ hs.2.2.1
  have q3 : w.cell? ⟨D, o + 3, none⟩ = some (.int .u8 (rd : Nat)) := hr.cellv _ (by omega) _ hs.2.2.2
  have f3 : w.frozen? ⟨D, o + 3, none⟩ = false := hr.frozen _
  have a1 := and63 rd hrd
  have a2 := and63 (64 - m) (by omega)
  have e2 : (64 : Int) - (m : Int) = ((64 - m : Nat) : Int) := by omega
  have hval := hb.2.2.1
  have hv : val * 2 ^ rd % 2 ^ 64 / 2 ^ (64 - m) < 2 ^ m := by
    rw [Nat.div_lt_iff_lt_mul (Nat.two_pow_pos _), ← Nat.pow_add, show m + (64 - m) = 64 by omega]
    exact Nat.mod_lt _ (by decide)
  have KF : Calls Tryf.prog 75 #[.pointer (some ⟨D, o, none⟩), .int .u8 (m : Nat)] w fun e w' => ∃ v, v < 2 ^ m ∧ e = .returned (.int .u16 (v : Nat)) ∧ BrDead w' D T N o A n c f0 (rd + m) w0 := by
    have HV := Lib.hid hv
    have HR := Lib.hid hr
    have HK := Lib.hid hk
    have HS := Lib.hid hs
    have HON := Lib.hid hon
    have HVAL := Lib.hid hval
    clear hr hk hs hb hon hval hv
    go_enter Tryf.func75, Tryf.ntmps75
    go_wp2_with fail
    go_quiet (fail)
    go_wp2_with fail
    go_ret
    refine ⟨_, HV.out, ?_, ?_⟩
    · show Ending.returned (.int .u16 (IntKind.u16.wrap (IntKind.u64.wrap ((val : Int) * 2 ^ rd) / 2 ^ (64 - m)))) = _
      rw [u64_shift, wrap16 _ (Nat.lt_of_lt_of_le HV.out (Nat.pow_le_pow_right (by omega) hm2))]
    · refine ⟨_, val, (HR.out.drewN _).set_ (o + 3) _, ?_, ?_, HVAL.out, by omega, by omega, (HON.out.drewN _).set_ rfl _⟩
      · intro k h1 h2 h3
        rw [updV_ne _ _ _ _ h3]
        exact HK.out k h1 h2 h3
      · obtain ⟨s1, s2, s3, s4⟩ := HS.out
        refine ⟨?_, ?_, ?_, ?_⟩
        · rw [updV_ne _ _ _ _ (by omega)]; exact s1
        · rw [updV_ne _ _ _ _ (by omega)]; exact s2
        · rw [updV_ne _ _ _ _ (by omega)]; exact s3
        · rw [updV_same]; rfl
  have HKF := Lib.hid KF
  have hme : ((m : Int) == 0) = false := beq_eq_false_iff_ne.2 (by omega)
  have hrd2 : decide ((64 : Int) ≤ (rd : Int)) = false := decide_eq_false (by omega)
  clear hr hk hs hb hon hval hv KF a1 a2 e2 q2 f3
  go_enter Tryf.func74, Tryf.ntmps74
  go_wp2_with fail
  refine HKF.out.mono ?_
  rintro e w1 ⟨v, hv, rfl, hb1⟩
  have HB1 := Lib.hid hb1
  have HV := Lib.hid hv
  clear hb1 hv
  go_wp2_with fail
  go_ret
  exact ⟨v, HV.out, rfl, HB1.out⟩
set_option maxHeartbeats 800000 in
theorem getBits_dead (w : World) (D o : Nat) :
    Calls Tryf.prog 74 #[.pointer (some ⟨D, o, none⟩), .int .u8 0] w fun e w' => e = .returned (.int .u16 0) ∧ w = w' := by
  go_enter Tryf.func74, Tryf.ntmps74
  go_wp2_with fail
  go_ret
  exact ⟨rfl, rfl⟩
set_option maxHeartbeats 800000 in
theorem brFinished_dead (h : BrDead w D T N o A n c f0 rd w0) (ho : o + 3 < N) :
    Calls Tryf.prog 76 #[.pointer (some ⟨D, o, none⟩)] w fun e w' => e = .returned (.bool true) ∧ w = w' := by
  obtain ⟨f, val, hr, hk, hs, hb, hrd, h2, hon⟩ := h
  have q1 : w.cell? ⟨D, o + 1, none⟩ = some (.int .u64 (0 : Nat)) := hr.cellv _ (by omega) _ hs.2.1
  have q3 : w.cell? ⟨D, o + 3, none⟩ = some (.int .u8 (rd : Nat)) := hr.cellv _ (by omega) _ hs.2.2.2
  have hd : decide ((64 : Int) ≤ (rd : Int)) = true := decide_eq_true (by omega)
  clear hr hk hs hb hon hrd h2
  go_enter Tryf.func76, Tryf.ntmps76
  go_wp2_with fail
  go_ret
  exact ⟨rfl, rfl⟩
set_option maxHeartbeats 800000 in
theorem fill_dead (h : BrDead w D T N o A n c f0 rd w0) (ho : o + 3 < N) :
    Calls Tryf.prog 71 #[.pointer (some ⟨D, o, none⟩)] w fun e w' => e = .returned (.tuple #[]) ∧ w = w' := by
  obtain ⟨f, val, hr, hk, hs, hb, hrd, h2, hon⟩ := h
  have q1 : w.cell? ⟨D, o + 1, none⟩ = some (.int .u64 (0 : Nat)) := hr.cellv _ (by omega) _ hs.2.1
  have q3 : w.cell? ⟨D, o + 3, none⟩ = some (.int .u8 (rd : Nat)) := hr.cellv _ (by omega) _ hs.2.2.2
  have hd : decide ((rd : Int) < 32) = false := decide_eq_false (by omega)
  clear hr hk hs hb hon hrd h2
  go_enter Tryf.func71, Tryf.ntmps71
  go_wp2_with fail
  refine wp_loop_rounds 1 ?_
  rw [rounds_succ]
  go_wp2_with fail
  refine bodyPost_end (results_none rfl _ _ _) rfl ?_
  exact ⟨rfl, rfl⟩
/-- io.ErrUnexpectedEOF, as it was laid -/
def EofAt (b : Addr) (s : ByteArray) (w : World) : Prop := w.cell? ⟨2, 0, none⟩ = some (.iface 107 (.pointer (some b))) ∧ w.cell? b = some (.string s)
set_option maxHeartbeats 800000 in
theorem brClose_dead (h : BrDead w D T N o A n c f0 rd w0) (ho : o + 3 < N) {b : Addr} {s : ByteArray} (hE : EofAt b s (w.setCell ⟨D, o, none⟩ (.slice none 0 0))) :
    Calls Tryf.prog 72 #[.pointer (some ⟨D, o, none⟩)] w fun e w' => (e = .returned (.iface 107 (.pointer (some b))) ∧ w'.cell? b = some (.string s)) ∧ Only (· = D) w w' := by
  obtain ⟨f, val, hr, hk, hs, hb, hrd, h2, hon⟩ := h
  have q0 : w.cell? ⟨D, o, none⟩ = some (.slice A n c) := hr.cellv _ (by omega) _ hs.1
  have f0 : w.frozen? ⟨D, o, none⟩ = false := hr.frozen _
  have q3 : w.cell? ⟨D, o + 3, none⟩ = some (.int .u8 (rd : Nat)) := hr.cellv _ (by omega) _ hs.2.2.2
  have hl : decide ((64 : Int) < (rd : Int)) = true := decide_eq_true (by omega)
  obtain ⟨he, hc⟩ := hE
  have HC := Lib.hid hc
  clear hr hk hs hb hon hrd h2 hc
  go_enter Tryf.func72, Tryf.ntmps72
  go_wp2_with fail
  go_ret
  exact ⟨⟨rfl, HC.out⟩, (Only.refl (· = D) w).set_ rfl _⟩
end
section
variable {w : World} {D G T S : Nat} {A : Option Addr} {n c rd : Nat} {l : List UInt8} {f0 : Nat → Value} {sy bt bs : Nat → Nat}
set_option maxRecDepth 100000 in
set_option maxHeartbeats 1600000 in
/-- a symbol, where the state wants more bits than there are -/
theorem dcNext_over {a : Nat} (h : BrIn w D 98 534 514 A n c l f0 0 rd w) (hG : RowF w G 167 3 (dcS D T S a)) (hT : RowF w T 162 (3 * S) (dcV sy bt bs)) (hDG : D ≠ G) (hDT : D ≠ T) (ha : a < S) (hb : bt a ≤ 16) (hov : 64 - rd < bt a) (hrd : rd < 64) (hS : S ≤ 64)
    (hnx : ∀ v, v < 2 ^ bt a → bs a + v < S) :
    Calls Tryf.prog 68 #[.pointer (some ⟨G, 0, none⟩)] w fun e w' => ∃ b', b' < S ∧ e = .returned (.int .u8 (sy a : Nat)) ∧
      BrDead w' D 98 534 514 A n c f0 (rd + bt a) w' ∧ RowF w' G 167 3 (dcS D T S b') ∧ Only (fun k => k = D ∨ k = G) w w' := by
  have c0 : w.cell? ⟨G, 0, none⟩ = some (.int .u16 (a : Nat)) := hG.cellv 0 (by omega) _ rfl
  have c1 : w.cell? ⟨G, 1, none⟩ = some (.pointer (some ⟨D, 514, none⟩)) := hG.cellv 1 (by omega) _ rfl
  have c2 : w.cell? ⟨G, 2, none⟩ = some (.slice (some ⟨T, 0, none⟩) S S) := hG.cellv 2 (by omega) _ rfl
  have t2 : w.cell? ⟨T, a * 3 + 2, none⟩ = some (.int .u8 (bt a : Nat)) := hT.cellv _ (by omega) _ (by unfold dcV; rw [if_neg (by omega), if_neg (by omega), show (a * 3 + 2) / 3 = a by omega])
  have hai : (a : Int) < (S : Int) := by omega
  have HB := Lib.hid h
  have HG := Lib.hid hG
  have HT := Lib.hid hT
  obtain ⟨bb, hbb⟩ : ∃ bb, bt a = bb := ⟨_, rfl⟩
  rw [hbb] at t2 hnx hb hov ⊢
  have HBB := Lib.hid hbb
  have HNX := Lib.hid hnx
  clear h hG hT hnx hbb
  go_enter Tryf.func68, Tryf.ntmps68
  go_upto_region 1 with fail
  go_quiet (fail)
  generalize hwz : World.drewN w nq = w1
  have hg1 := HG.out.drewN nq
  rw [hwz] at hg1
  have ht1 := HT.out.drewN nq
  rw [hwz] at ht1
  have e1 : w1.cell? ⟨G, 1, none⟩ = some (.pointer (some ⟨D, 514, none⟩)) := hg1.cellv 1 (by omega) _ rfl
  have e2 : w1.cell? ⟨T, a * 3 + 2, none⟩ = some (.int .u8 (bb : Nat)) := ht1.cellv _ (by omega) _ (by unfold dcV; rw [if_neg (by omega), if_neg (by omega), show (a * 3 + 2) / 3 = a by omega, HBB.out])
  have KGD := Lib.hid (fun q => (getBits_over (((HB.out.drewN nq).drewN q).base) (by omega) bb hb hov hrd))
  rw [hwz] at KGD
  have HG1 := Lib.hid hg1
  have HT1 := Lib.hid ht1
  have hon1 : Only (fun k => k = D ∨ k = G) w w1 := by rw [← hwz]; exact (Only.refl _ w).drewN nq
  have HON1 := Lib.hid hon1
  clear hg1 ht1 hon1 hwz c0 c1 c2 t2
  go_upto_region 2 with fail
  refine wp_region_quiet_tail 8 (by kernel_rfl) (by kernel_rfl) ?_
  simp only [List.take_succ_cons, List.take_zero, List.drop_succ_cons, List.drop_zero]
  repeat (go_big_quiet_step (fail))
  refine wpQuiet_nil ?_
  go_wp2_with fail
  refine (KGD.out 1).mono ?_
  rintro e w2 ⟨v, hvl, rfl, hb2⟩
  have hvs := HNX.out v hvl
  have hgd := (HG1.out.drewN 1)
  have hg2 := hb2.only.row hgd (fun e => hDG e.symm)
  have ht2 := hb2.only.row (HT1.out.drewN 1) (fun e => hDT e.symm)
  have e0 : w2.cell? ⟨G, 0, none⟩ = some (.int .u16 (a : Nat)) := hg2.cellv 0 (by omega) _ rfl
  have z0 := hg2.frozen 0
  have e3 : w2.cell? ⟨T, a * 3, none⟩ = some (.int .u16 (bs a : Nat)) := ht2.cellv _ (by omega) _ (by unfold dcV; rw [if_pos (by omega), show a * 3 / 3 = a by omega])
  have e4 : w2.cell? ⟨T, a * 3 + 1, none⟩ = some (.int .u8 (sy a : Nat)) := ht2.cellv _ (by omega) _ (by unfold dcV; rw [if_neg (by omega), if_pos (by omega), show (a * 3 + 1) / 3 = a by omega])
  have ew : IntKind.u16.wrap ((bs a : Int) + (v : Int)) = ((bs a + v : Nat) : Int) := by rw [IntKind.wrap_u16]; omega
  have hne : T ≠ G ∨ T = G := by omega
  have HB2 := Lib.hid hb2
  have HG2 := Lib.hid hg2
  have hfin : ∀ wz, wz = w2.setCell ⟨G, 0, none⟩ (.int .u16 (bs a + v : Nat)) → BrDead wz D 98 534 514 A n c f0 (rd + bb) wz ∧ RowF wz G 167 3 (dcS D T S (bs a + v)) ∧ Only (fun k => k = D ∨ k = G) w wz := by
    rintro wz rfl
    exact ⟨HB2.out.base.otherSet (p := ⟨G, 0, none⟩) (Ne.symm hDG) _, (HG2.out.set_ 0 _).congr (dcS_set D T S a (bs a + v)), ((HON1.out.drewN 1).trans (HB2.out.only.mono fun _ h => .inl h)).set_ (p := ⟨G, 0, none⟩) (.inr rfl) _⟩
  have HFIN := Lib.hid hfin
  clear hb2 hgd hg2 ht2 hne hfin
  go_wp2_with fail
  go_ret
  refine ⟨bs a + v, hvs, rfl, HFIN.out _ ?_⟩
  first
    | rfl
    | (rw [ew])
    | (congr 2; omega)

set_option maxRecDepth 100000 in
set_option maxHeartbeats 1600000 in
/-- a symbol, where no bit is wanted and there is none -/
theorem dcNext_dead {a : Nat} (h : BrDead w D 98 534 514 A n c f0 rd w) (hG : RowF w G 167 3 (dcS D T S a)) (hT : RowF w T 162 (3 * S) (dcV sy bt bs)) (hDG : D ≠ G) (ha : a < S) (hb0 : bt a = 0) (hlt : bs a < S) (hS : S ≤ 64) :
    Calls Tryf.prog 68 #[.pointer (some ⟨G, 0, none⟩)] w fun e w' => e = .returned (.int .u8 (sy a : Nat)) ∧
      BrDead w' D 98 534 514 A n c f0 rd w' ∧ RowF w' G 167 3 (dcS D T S (bs a)) ∧ Only (fun k => k = D ∨ k = G) w w' := by
  have c0 : w.cell? ⟨G, 0, none⟩ = some (.int .u16 (a : Nat)) := hG.cellv 0 (by omega) _ rfl
  have c1 : w.cell? ⟨G, 1, none⟩ = some (.pointer (some ⟨D, 514, none⟩)) := hG.cellv 1 (by omega) _ rfl
  have c2 : w.cell? ⟨G, 2, none⟩ = some (.slice (some ⟨T, 0, none⟩) S S) := hG.cellv 2 (by omega) _ rfl
  have t2 : w.cell? ⟨T, a * 3 + 2, none⟩ = some (.int .u8 (bt a : Nat)) := hT.cellv _ (by omega) _ (by unfold dcV; rw [if_neg (by omega), if_neg (by omega), show (a * 3 + 2) / 3 = a by omega])
  have hai : (a : Int) < (S : Int) := by omega
  have HB := Lib.hid h
  have HG := Lib.hid hG
  have HT := Lib.hid hT
  rw [hb0] at t2
  have HBB := Lib.hid hb0
  clear h hG hT hb0
  go_enter Tryf.func68, Tryf.ntmps68
  go_upto_region 1 with fail
  go_quiet (fail)
  generalize hwz : World.drewN w nq = w1
  have hg1 := HG.out.drewN nq
  rw [hwz] at hg1
  have ht1 := HT.out.drewN nq
  rw [hwz] at ht1
  have e1 : w1.cell? ⟨G, 1, none⟩ = some (.pointer (some ⟨D, 514, none⟩)) := hg1.cellv 1 (by omega) _ rfl
  have e2 : w1.cell? ⟨T, a * 3 + 2, none⟩ = some (.int .u8 (0 : Nat)) := ht1.cellv _ (by omega) _ (by unfold dcV; rw [if_neg (by omega), if_neg (by omega), show (a * 3 + 2) / 3 = a by omega, HBB.out])
  have KGD := Lib.hid (fun q => (getBits_dead ((w.drewN nq).drewN q) D 514))
  rw [hwz] at KGD
  have hbd := (HB.out.drewN nq).base
  rw [hwz] at hbd
  have HBD := Lib.hid hbd
  clear hbd
  have HG1 := Lib.hid hg1
  have HT1 := Lib.hid ht1
  have hon1 : Only (fun k => k = D ∨ k = G) w w1 := by rw [← hwz]; exact (Only.refl _ w).drewN nq
  have HON1 := Lib.hid hon1
  clear hg1 ht1 hon1 hwz c0 c1 c2 t2
  go_upto_region 2 with fail
  refine wp_region_quiet_tail 8 (by kernel_rfl) (by kernel_rfl) ?_
  simp only [List.take_succ_cons, List.take_zero, List.drop_succ_cons, List.drop_zero]
  repeat (go_big_quiet_step (fail))
  refine wpQuiet_nil ?_
  go_wp2_with fail
  refine (KGD.out 1).mono ?_
  rintro e w2 ⟨rfl, hw2⟩
  have hb2 := (HBD.out.drewN 1).base
  have hg2 := (HG1.out.drewN 1)
  have ht2 := (HT1.out.drewN 1)
  rw [hw2] at hb2 hg2 ht2
  have ho2 : Only (fun k => k = D ∨ k = G) w w2 := by rw [← hw2]; exact HON1.out.drewN 1
  have HO2 := Lib.hid ho2
  clear hw2 ho2
  have e0 : w2.cell? ⟨G, 0, none⟩ = some (.int .u16 (a : Nat)) := hg2.cellv 0 (by omega) _ rfl
  have z0 := hg2.frozen 0
  have e3 : w2.cell? ⟨T, a * 3, none⟩ = some (.int .u16 (bs a : Nat)) := ht2.cellv _ (by omega) _ (by unfold dcV; rw [if_pos (by omega), show a * 3 / 3 = a by omega])
  have e4 : w2.cell? ⟨T, a * 3 + 1, none⟩ = some (.int .u8 (sy a : Nat)) := ht2.cellv _ (by omega) _ (by unfold dcV; rw [if_neg (by omega), if_pos (by omega), show (a * 3 + 1) / 3 = a by omega])
  have ew : IntKind.u16.wrap ((bs a : Int) + 0) = ((bs a : Nat) : Int) := by rw [IntKind.wrap_u16]; omega
  have hne : T ≠ G ∨ T = G := by omega
  have HB2 := Lib.hid hb2
  have HG2 := Lib.hid hg2
  have hfin : ∀ wz, wz = w2.setCell ⟨G, 0, none⟩ (.int .u16 (bs a : Nat)) → BrDead wz D 98 534 514 A n c f0 rd wz ∧ RowF wz G 167 3 (dcS D T S (bs a)) ∧ Only (fun k => k = D ∨ k = G) w wz := by
    rintro wz rfl
    exact ⟨HB2.out.base.otherSet (p := ⟨G, 0, none⟩) (Ne.symm hDG) _, (HG2.out.set_ 0 _).congr (dcS_set D T S a (bs a)), HO2.out.set_ (p := ⟨G, 0, none⟩) (.inr rfl) _⟩
  have HFIN := Lib.hid hfin
  clear hb2 hg2 ht2 hne hfin
  go_wp2_with fail
  go_ret
  refine ⟨rfl, HFIN.out _ ?_⟩
  first
    | rfl
    | (rw [ew])
    | (congr 2; omega)

set_option maxRecDepth 100000 in
set_option maxHeartbeats 1600000 in
theorem dcFinished_dead {a : Nat} (h : BrDead w D 98 534 514 A n c f0 rd w) (hG : RowF w G 167 3 (dcS D T S a)) (hT : RowF w T 162 (3 * S) (dcV sy bt bs)) (ha : a < S) :
    Calls Tryf.prog 69 #[.pointer (some ⟨G, 0, none⟩)] w fun e w' => e = .returned (.bool (decide (0 < bt a))) ∧ ∃ q, w' = w.drewN q := by
  have c0 : w.cell? ⟨G, 0, none⟩ = some (.int .u16 (a : Nat)) := hG.cellv 0 (by omega) _ rfl
  have c1 : w.cell? ⟨G, 1, none⟩ = some (.pointer (some ⟨D, 514, none⟩)) := hG.cellv 1 (by omega) _ rfl
  have c2 : w.cell? ⟨G, 2, none⟩ = some (.slice (some ⟨T, 0, none⟩) S S) := hG.cellv 2 (by omega) _ rfl
  have t1 : w.cell? ⟨T, a * 3 + 2, none⟩ = some (.int .u8 (bt a : Nat)) := hT.cellv _ (by omega) _ (by unfold dcV; rw [if_neg (by omega), if_neg (by omega), show (a * 3 + 2) / 3 = a by omega])
  have hai : (a : Int) < (S : Int) := by omega
  have KF := Lib.hid (fun q => brFinished_dead ((h.drewN q).base) (by omega))
  have hd : decide ((0 : Int) < (bt a : Int)) = decide (0 < bt a) := by
    by_cases hb : 0 < bt a
    · rw [decide_eq_true hb]; exact decide_eq_true (by omega)
    · rw [decide_eq_false hb]; exact decide_eq_false (by omega)
  clear hG hT h
  go_enter Tryf.func69, Tryf.ntmps69
  go_upto_region 1 with fail
  go_quiet ((go_at_call 76; exact Calls.quiet_of_same ((KF.out _).mono fun _ _ h => ⟨h.1, h.2.symm⟩)))
  go_wp2_with fail
  go_ret
  exact ⟨by simp, _, rfl⟩
end
end Go.Proofs.YthkklojjpgjiiaaFmt
namespace Go.Proofs.YthkklojjpgjiiaaFmt
open Go.RowKit Go.Extern.Stop Go.Stop Go.Extern

/-- what stays as it is in the call -/
structure DcE (D U T S G1 G2 H : Nat) (sy bt bs : Nat → Nat) : Prop where
  hHD : H < D
  hDT : D < T
  hTU : T < U
  hU1 : U < G1
  h12 : G1 < G2
  hS : S ≤ 64
  hbt : ∀ i, i < S → bt i ≤ 6
  hnx : ∀ i v, i < S → v < 2 ^ bt i → bs i + v < S
  hsy : ∀ i, i < S → sy i < 256
/-- the memory: the reader of bits, the table, the two states, the symbols so far -/
def DcM (w0 : World) (D U T S G1 G2 H : Nat) (Z : Option Obj) (A : Option Addr) (n c : Nat) (l : List UInt8) (sy bt bs : Nat → Nat) (a1 a2 : Nat) (out : List Int) (wr : World) : Prop :=
  RowF wr T 162 (3 * S) (dcV sy bt bs) ∧ RowF wr G1 167 3 (dcS D T S a1) ∧ RowF wr G2 167 3 (dcS D T S a2) ∧
  (∃ tmp, RowF wr U 5 256 tmp ∧ ∀ k, k < out.length → k < 256 → tmp k = .int .u8 (out.getD k 0)) ∧ Sl wr H A n c l ∧ w0.heap.size ≤ G1 ∧ Only (fun k => k = D ∨ k = U ∨ k = H) w0 wr ∧ wr.heap[H]? = Z
section
variable {w0 wr w' : World} {D U T S G1 G2 H : Nat} {Z : Option Obj} {A : Option Addr} {n c : Nat} {l : List UInt8} {sy bt bs : Nat → Nat} {a1 a2 : Nat} {out : List Int}
theorem DcM.drewN (h : DcM w0 D U T S G1 G2 H Z A n c l sy bt bs a1 a2 out wr) (q : Nat) : DcM w0 D U T S G1 G2 H Z A n c l sy bt bs a1 a2 out (wr.drewN q) := by
  obtain ⟨h1, h2, h3, ⟨tmp, h4, h5⟩, h6, h7, h8, h9⟩ := h
  exact ⟨h1.drewN q, h2.drewN q, h3.drewN q, ⟨tmp, h4.drewN q, h5⟩, h6, h7, h8.drewN q, h9⟩
theorem DcM.reader (E : DcE D U T S G1 G2 H sy bt bs) (h : DcM w0 D U T S G1 G2 H Z A n c l sy bt bs a1 a2 out wr) (ho : Only (· = D) wr w') : DcM w0 D U T S G1 G2 H Z A n c l sy bt bs a1 a2 out w' := by
  obtain ⟨h1, h2, h3, ⟨tmp, h4, h5⟩, h6, h7, h8, h9⟩ := h
  have hD := E.hDT
  have hT := E.hTU
  have hU := E.hU1
  have h12 := E.h12
  have hH := E.hHD
  exact ⟨ho.row h1 (by omega), ho.row h2 (by omega), ho.row h3 (by omega), ⟨tmp, ho.row h4 (by omega), h5⟩, h6.keep fun b o hb => World.cell?_of_block (ho.block b (by omega) (by have := h1.lt; omega)), h7, h8.trans (ho.mono fun _ e => .inl e), (ho.block H (by omega) (by have := h1.lt; omega)).trans h9⟩
theorem DcM.first (E : DcE D U T S G1 G2 H sy bt bs) (h : DcM w0 D U T S G1 G2 H Z A n c l sy bt bs a1 a2 out wr) (ho : Only (fun k => k = D ∨ k = G1) wr w') {b1 : Nat} (hg : RowF w' G1 167 3 (dcS D T S b1)) : DcM w0 D U T S G1 G2 H Z A n c l sy bt bs b1 a2 out w' := by
  obtain ⟨h1, h2, h3, ⟨tmp, h4, h5⟩, h6, h7, h8, h9⟩ := h
  have hD := E.hDT
  have hT := E.hTU
  have hU := E.hU1
  have h12 := E.h12
  have hH := E.hHD
  refine ⟨ho.row h1 (by omega), hg, ho.row h3 (by omega), ⟨tmp, ho.row h4 (by omega), h5⟩, h6.keep fun b o hb => World.cell?_of_block (ho.block b (by omega) (by have := h1.lt; omega)), h7, ⟨ho.os.trans h8.os, ho.tape.trans h8.tape, ho.output.trans h8.output, Nat.le_trans h8.size ho.size, fun k hk hk2 => (ho.block k (fun e => ?_) (Nat.lt_of_lt_of_le hk2 h8.size)).trans (h8.block k hk hk2), fun k hk T N hr => ho.rows k (Nat.lt_of_lt_of_le hk h8.size) T N (h8.rows k hk T N hr)⟩, (ho.block H (by omega) (by have := h1.lt; omega)).trans h9⟩
  rcases e with e | e
  · exact hk (.inl e)
  · omega
theorem DcM.second (E : DcE D U T S G1 G2 H sy bt bs) (h : DcM w0 D U T S G1 G2 H Z A n c l sy bt bs a1 a2 out wr) (ho : Only (fun k => k = D ∨ k = G2) wr w') {b2 : Nat} (hg : RowF w' G2 167 3 (dcS D T S b2)) : DcM w0 D U T S G1 G2 H Z A n c l sy bt bs a1 b2 out w' := by
  obtain ⟨h1, h2, h3, ⟨tmp, h4, h5⟩, h6, h7, h8, h9⟩ := h
  have hD := E.hDT
  have hT := E.hTU
  have hU := E.hU1
  have h12 := E.h12
  have hH := E.hHD
  refine ⟨ho.row h1 (by omega), ho.row h2 (by omega), hg, ⟨tmp, ho.row h4 (by omega), h5⟩, h6.keep fun b o hb => World.cell?_of_block (ho.block b (by omega) (by have := h1.lt; omega)), h7, ⟨ho.os.trans h8.os, ho.tape.trans h8.tape, ho.output.trans h8.output, Nat.le_trans h8.size ho.size, fun k hk hk2 => (ho.block k (fun e => ?_) (Nat.lt_of_lt_of_le hk2 h8.size)).trans (h8.block k hk hk2), fun k hk T N hr => ho.rows k (Nat.lt_of_lt_of_le hk h8.size) T N (h8.rows k hk T N hr)⟩, (ho.block H (by omega) (by have := h1.lt; omega)).trans h9⟩
  rcases e with e | e
  · exact hk (.inl e)
  · omega
/-- a symbol is laid -/
theorem DcM.push (E : DcE D U T S G1 G2 H sy bt bs) (h : DcM w0 D U T S G1 G2 H Z A n c l sy bt bs a1 a2 out wr) (x : Int) : DcM w0 D U T S G1 G2 H Z A n c l sy bt bs a1 a2 (out ++ [x]) (wr.setCell ⟨U, out.length, none⟩ (.int .u8 x)) := by
  obtain ⟨h1, h2, h3, ⟨tmp, h4, h5⟩, h6, h7, h8, h9⟩ := h
  have hD := E.hDT
  have hT := E.hTU
  have hU := E.hU1
  have h12 := E.h12
  have hH := E.hHD
  refine ⟨h1.other _ (show U ≠ T by omega), h2.other _ (show U ≠ G1 by omega), h3.other _ (show U ≠ G2 by omega), ⟨_, h4.set_ _ _, fun k hk hk2 => ?_⟩, h6.keep fun b o hb => World.cell?_of_block (setCell_heap _ (show b ≠ U by omega)), h7, h8.set_ (.inr (.inl rfl)) _, (setCell_heap _ (show H ≠ U by omega)).trans h9⟩
  rw [List.length_append] at hk
  simp only [List.length_cons, List.length_nil] at hk
  by_cases hko : k = out.length
  · subst hko
    rw [updV_same, List.getD_eq_getElem?_getD, List.getElem?_append_right (Nat.le_refl _)]
    simp
  · rw [updV_ne _ _ _ _ hko, h5 k (by omega) hk2, List.getD_eq_getElem?_getD, List.getD_eq_getElem?_getD, List.getElem?_append_left (by omega)]
end
/-- the bits go on -/
theorem leftB_add (off rd m : Nat) (h : m ≤ 64 - rd) : leftB off (rd + m) = leftB off rd - m := by
  unfold leftB
  omega
theorem SR.adv {sy bt bs : Nat → Nat} {l : List UInt8} {L a b : Nat} {out : List Int} {R : WRes} (h : SR sy bt bs l L a b out R) (hl : out.length ≤ 255) (hb : bt a ≤ L) (h0 : ¬ (L = 0 ∧ 0 < bt a)) :
    SR sy bt bs l (L - bt a) b (bs a + numF l (L - bt a) (bt a)) (out ++ [(sy a : Int)]) R := by
  cases h with
  | full h => omega
  | next h hb hr => exact hr
  | over h hb2 hL => omega
  | end_ h hb2 h2 => exact absurd ⟨rfl, hb2⟩ h0
  | long h hb2 h2 => exact absurd ⟨rfl, hb2⟩ h0
section
variable {w0 wr : World} {D U T S G1 G2 H : Nat} {Z : Option Obj} {A : Option Addr} {n c off rd : Nat} {l : List UInt8} {sy bt bs : Nat → Nat} {a1 a2 : Nat} {out : List Int} {f0 : Nat → Value}
theorem dcN1 (E : DcE D U T S G1 G2 H sy bt bs) (hb : BrIn wr D 98 534 514 A n c l f0 off rd wr) (h : DcM w0 D U T S G1 G2 H Z A n c l sy bt bs a1 a2 out wr) (ha : a1 < S) (hrd : bt a1 ≤ 64 - rd) :
    Calls Tryf.prog 68 #[.pointer (some ⟨G1, 0, none⟩)] wr fun e w' => e = .returned (.int .u8 (sy a1 : Nat)) ∧ bs a1 + numF l (leftB off rd - bt a1) (bt a1) < S ∧
      BrIn w' D 98 534 514 A n c l f0 off (rd + bt a1) w' ∧ DcM w0 D U T S G1 G2 H Z A n c l sy bt bs (bs a1 + numF l (leftB off rd - bt a1) (bt a1)) a2 out w' := by
  have hn := E.hnx a1 _ ha (numF_lt l (leftB off rd - bt a1) (bt a1))
  have hD := E.hDT; have hT := E.hTU; have hU := E.hU1; have h12 := E.h12; have hS := E.hS
  refine (dcNext_any hb h.2.1 h.1 (by omega) (by omega) ha (Nat.le_trans (E.hbt a1 ha) (by decide)) hrd rfl (by omega)).mono ?_
  rintro e w' ⟨rfl, hb', hg', ho⟩
  exact ⟨rfl, hn, hb', h.first E ho hg'⟩
theorem dcN2 (E : DcE D U T S G1 G2 H sy bt bs) (hb : BrIn wr D 98 534 514 A n c l f0 off rd wr) (h : DcM w0 D U T S G1 G2 H Z A n c l sy bt bs a1 a2 out wr) (ha : a2 < S) (hrd : bt a2 ≤ 64 - rd) :
    Calls Tryf.prog 68 #[.pointer (some ⟨G2, 0, none⟩)] wr fun e w' => e = .returned (.int .u8 (sy a2 : Nat)) ∧ bs a2 + numF l (leftB off rd - bt a2) (bt a2) < S ∧
      BrIn w' D 98 534 514 A n c l f0 off (rd + bt a2) w' ∧ DcM w0 D U T S G1 G2 H Z A n c l sy bt bs a1 (bs a2 + numF l (leftB off rd - bt a2) (bt a2)) out w' := by
  have hn := E.hnx a2 _ ha (numF_lt l (leftB off rd - bt a2) (bt a2))
  have hD := E.hDT; have hT := E.hTU; have hU := E.hU1; have h12 := E.h12; have hS := E.hS
  refine (dcNext_any hb h.2.2.1 h.1 (by omega) (by omega) ha (Nat.le_trans (E.hbt a2 ha) (by decide)) hrd rfl (by omega)).mono ?_
  rintro e w' ⟨rfl, hb', hg', ho⟩
  exact ⟨rfl, hn, hb', h.second E ho hg'⟩
theorem dcF1 (E : DcE D U T S G1 G2 H sy bt bs) (hf : ∀ i, i < S → 1 ≤ bt i) (hb : BrIn wr D 98 534 514 A n c l f0 off rd wr) (h : DcM w0 D U T S G1 G2 H Z A n c l sy bt bs a1 a2 out wr) (ha : a1 < S) (hrd : bt a1 ≤ 64 - rd) :
    Calls Tryf.prog 67 #[.pointer (some ⟨G1, 0, none⟩)] wr fun e w' => e = .returned (.int .u8 (sy a1 : Nat)) ∧ bs a1 + numF l (leftB off rd - bt a1) (bt a1) < S ∧
      BrIn w' D 98 534 514 A n c l f0 off (rd + bt a1) w' ∧ DcM w0 D U T S G1 G2 H Z A n c l sy bt bs (bs a1 + numF l (leftB off rd - bt a1) (bt a1)) a2 out w' := by
  have hn := E.hnx a1 _ ha (numF_lt l (leftB off rd - bt a1) (bt a1))
  have hD := E.hDT; have hT := E.hTU; have hU := E.hU1; have h12 := E.h12; have hS := E.hS
  refine (dcFast_any hb h.2.1 h.1 (by omega) ha (hf a1 ha) (Nat.le_trans (E.hbt a1 ha) (by decide)) hrd rfl (by omega)).mono ?_
  rintro e w' ⟨rfl, hb', hg', ho⟩
  exact ⟨rfl, hn, hb', h.first E ho hg'⟩
theorem dcF2 (E : DcE D U T S G1 G2 H sy bt bs) (hf : ∀ i, i < S → 1 ≤ bt i) (hb : BrIn wr D 98 534 514 A n c l f0 off rd wr) (h : DcM w0 D U T S G1 G2 H Z A n c l sy bt bs a1 a2 out wr) (ha : a2 < S) (hrd : bt a2 ≤ 64 - rd) :
    Calls Tryf.prog 67 #[.pointer (some ⟨G2, 0, none⟩)] wr fun e w' => e = .returned (.int .u8 (sy a2 : Nat)) ∧ bs a2 + numF l (leftB off rd - bt a2) (bt a2) < S ∧
      BrIn w' D 98 534 514 A n c l f0 off (rd + bt a2) w' ∧ DcM w0 D U T S G1 G2 H Z A n c l sy bt bs a1 (bs a2 + numF l (leftB off rd - bt a2) (bt a2)) out w' := by
  have hn := E.hnx a2 _ ha (numF_lt l (leftB off rd - bt a2) (bt a2))
  have hD := E.hDT; have hT := E.hTU; have hU := E.hU1; have h12 := E.h12; have hS := E.hS
  refine (dcFast_any hb h.2.2.1 h.1 (by omega) ha (hf a2 ha) (Nat.le_trans (E.hbt a2 ha) (by decide)) hrd rfl (by omega)).mono ?_
  rintro e w' ⟨rfl, hb', hg', ho⟩
  exact ⟨rfl, hn, hb', h.second E ho hg'⟩
end
/-- the first state's turn -/
structure St1 (w0 : World) (D U T S G1 G2 H : Nat) (Z : Option Obj) (A : Option Addr) (n c : Nat) (l : List UInt8) (f0 : Nat → Value) (sy bt bs : Nat → Nat) (R : WRes) (off rd a1 a2 : Nat) (out : List Int) (wr : World) : Prop where
  hb : BrIn wr D 98 534 514 A n c l f0 off rd wr
  hm : DcM w0 D U T S G1 G2 H Z A n c l sy bt bs a1 a2 out wr
  h1 : a1 < S
  h2 : a2 < S
  hr : SR sy bt bs l (leftB off rd) a1 a2 out R
/-- the second state's turn -/
structure St2 (w0 : World) (D U T S G1 G2 H : Nat) (Z : Option Obj) (A : Option Addr) (n c : Nat) (l : List UInt8) (f0 : Nat → Value) (sy bt bs : Nat → Nat) (R : WRes) (off rd a1 a2 : Nat) (out : List Int) (wr : World) : Prop where
  hb : BrIn wr D 98 534 514 A n c l f0 off rd wr
  hm : DcM w0 D U T S G1 G2 H Z A n c l sy bt bs a1 a2 out wr
  h1 : a1 < S
  h2 : a2 < S
  hr : SR sy bt bs l (leftB off rd) a2 a1 out R
/-- a symbol of the first state is read, not yet laid -/
def Mid1 (w0 : World) (D U T S G1 G2 H : Nat) (Z : Option Obj) (A : Option Addr) (n c : Nat) (l : List UInt8) (f0 : Nat → Value) (sy bt bs : Nat → Nat) (R : WRes) (off rd a2 x : Nat) (out : List Int) (wr : World) : Prop :=
  ∃ a1, a1 < S ∧ a2 < S ∧ BrIn wr D 98 534 514 A n c l f0 off rd wr ∧ DcM w0 D U T S G1 G2 H Z A n c l sy bt bs a1 a2 out wr ∧ SR sy bt bs l (leftB off rd) a2 a1 (out ++ [(x : Int)]) R
def Mid2 (w0 : World) (D U T S G1 G2 H : Nat) (Z : Option Obj) (A : Option Addr) (n c : Nat) (l : List UInt8) (f0 : Nat → Value) (sy bt bs : Nat → Nat) (R : WRes) (off rd a1 x : Nat) (out : List Int) (wr : World) : Prop :=
  ∃ a2, a2 < S ∧ a1 < S ∧ BrIn wr D 98 534 514 A n c l f0 off rd wr ∧ DcM w0 D U T S G1 G2 H Z A n c l sy bt bs a1 a2 out wr ∧ SR sy bt bs l (leftB off rd) a1 a2 (out ++ [(x : Int)]) R
section
variable {w0 wr : World} {D U T S G1 G2 H : Nat} {Z : Option Obj} {A : Option Addr} {n c off rd : Nat} {l : List UInt8} {sy bt bs : Nat → Nat} {a1 a2 x : Nat} {out : List Int} {f0 : Nat → Value} {R : WRes}
theorem st1N (E : DcE D U T S G1 G2 H sy bt bs) (h : St1 w0 D U T S G1 G2 H Z A n c l f0 sy bt bs R off rd a1 a2 out wr) (hrd : bt a1 ≤ 64 - rd) (hl : out.length ≤ 255) :
    Calls Tryf.prog 68 #[.pointer (some ⟨G1, 0, none⟩)] wr fun e w' => e = .returned (.int .u8 (sy a1 : Nat)) ∧ Mid1 w0 D U T S G1 G2 H Z A n c l f0 sy bt bs R off (rd + bt a1) a2 (sy a1) out w' := by
  refine (dcN1 E h.hb h.hm h.h1 hrd).mono ?_
  rintro e w' ⟨rfl, hn, hb', hm'⟩
  refine ⟨rfl, _, hn, h.h2, hb', hm', ?_⟩
  rw [leftB_add off rd _ hrd]
  refine h.hr.adv hl ?_ ?_ <;> (unfold leftB; omega)
theorem st2N (E : DcE D U T S G1 G2 H sy bt bs) (h : St2 w0 D U T S G1 G2 H Z A n c l f0 sy bt bs R off rd a1 a2 out wr) (hrd : bt a2 ≤ 64 - rd) (hl : out.length ≤ 255) :
    Calls Tryf.prog 68 #[.pointer (some ⟨G2, 0, none⟩)] wr fun e w' => e = .returned (.int .u8 (sy a2 : Nat)) ∧ Mid2 w0 D U T S G1 G2 H Z A n c l f0 sy bt bs R off (rd + bt a2) a1 (sy a2) out w' := by
  refine (dcN2 E h.hb h.hm h.h2 hrd).mono ?_
  rintro e w' ⟨rfl, hn, hb', hm'⟩
  refine ⟨rfl, _, hn, h.h1, hb', hm', ?_⟩
  rw [leftB_add off rd _ hrd]
  refine h.hr.adv hl ?_ ?_ <;> (unfold leftB; omega)
theorem st1F (E : DcE D U T S G1 G2 H sy bt bs) (hf : ∀ i, i < S → 1 ≤ bt i) (h : St1 w0 D U T S G1 G2 H Z A n c l f0 sy bt bs R off rd a1 a2 out wr) (hrd : bt a1 ≤ 64 - rd) (hl : out.length ≤ 255) :
    Calls Tryf.prog 67 #[.pointer (some ⟨G1, 0, none⟩)] wr fun e w' => e = .returned (.int .u8 (sy a1 : Nat)) ∧ Mid1 w0 D U T S G1 G2 H Z A n c l f0 sy bt bs R off (rd + bt a1) a2 (sy a1) out w' := by
  refine (dcF1 E hf h.hb h.hm h.h1 hrd).mono ?_
  rintro e w' ⟨rfl, hn, hb', hm'⟩
  refine ⟨rfl, _, hn, h.h2, hb', hm', ?_⟩
  rw [leftB_add off rd _ hrd]
  refine h.hr.adv hl ?_ ?_ <;> (unfold leftB; omega)
theorem st2F (E : DcE D U T S G1 G2 H sy bt bs) (hf : ∀ i, i < S → 1 ≤ bt i) (h : St2 w0 D U T S G1 G2 H Z A n c l f0 sy bt bs R off rd a1 a2 out wr) (hrd : bt a2 ≤ 64 - rd) (hl : out.length ≤ 255) :
    Calls Tryf.prog 67 #[.pointer (some ⟨G2, 0, none⟩)] wr fun e w' => e = .returned (.int .u8 (sy a2 : Nat)) ∧ Mid2 w0 D U T S G1 G2 H Z A n c l f0 sy bt bs R off (rd + bt a2) a1 (sy a2) out w' := by
  refine (dcF2 E hf h.hb h.hm h.h2 hrd).mono ?_
  rintro e w' ⟨rfl, hn, hb', hm'⟩
  refine ⟨rfl, _, hn, h.h1, hb', hm', ?_⟩
  rw [leftB_add off rd _ hrd]
  refine h.hr.adv hl ?_ ?_ <;> (unfold leftB; omega)
theorem Mid1.cells (h : Mid1 w0 D U T S G1 G2 H Z A n c l f0 sy bt bs R off rd a2 x out wr) (k : Nat) (hk : k < 256) : (∃ v, wr.cell? ⟨U, k, none⟩ = some v) ∧ wr.frozen? ⟨U, k, none⟩ = false := by
  obtain ⟨a1, _, _, _, ⟨_, _, _, ⟨tmp, h4, _⟩, _⟩, _⟩ := h
  exact ⟨⟨_, h4.cell k hk⟩, h4.frozen k⟩
theorem Mid2.cells (h : Mid2 w0 D U T S G1 G2 H Z A n c l f0 sy bt bs R off rd a1 x out wr) (k : Nat) (hk : k < 256) : (∃ v, wr.cell? ⟨U, k, none⟩ = some v) ∧ wr.frozen? ⟨U, k, none⟩ = false := by
  obtain ⟨a2, _, _, _, ⟨_, _, _, ⟨tmp, h4, _⟩, _⟩, _⟩ := h
  exact ⟨⟨_, h4.cell k hk⟩, h4.frozen k⟩
theorem Mid1.lay (E : DcE D U T S G1 G2 H sy bt bs) (h : Mid1 w0 D U T S G1 G2 H Z A n c l f0 sy bt bs R off rd a2 x out wr) : ∃ a1, St2 w0 D U T S G1 G2 H Z A n c l f0 sy bt bs R off rd a1 a2 (out ++ [(x : Int)]) (wr.setCell ⟨U, out.length, none⟩ (.int .u8 (x : Nat))) := by
  obtain ⟨a1, h1, h2, hb, hm, hr⟩ := h
  have hD := E.hDT
  have hT := E.hTU
  exact ⟨a1, hb.otherSet (show U ≠ D by omega) _, hm.push E _, h1, h2, hr⟩
theorem Mid2.lay (E : DcE D U T S G1 G2 H sy bt bs) (h : Mid2 w0 D U T S G1 G2 H Z A n c l f0 sy bt bs R off rd a1 x out wr) : ∃ a2, St1 w0 D U T S G1 G2 H Z A n c l f0 sy bt bs R off rd a1 a2 (out ++ [(x : Int)]) (wr.setCell ⟨U, out.length, none⟩ (.int .u8 (x : Nat))) := by
  obtain ⟨a2, h2, h1, hb, hm, hr⟩ := h
  have hD := E.hDT
  have hT := E.hTU
  exact ⟨a2, hb.otherSet (show U ≠ D by omega) _, hm.push E _, h1, h2, hr⟩
/-- the register is filled -/
theorem St1.fillFast (E : DcE D U T S G1 G2 H sy bt bs) (h : St1 w0 D U T S G1 G2 H Z A n c l f0 sy bt bs R off rd a1 a2 out wr) (hn : n ≤ 1000000) (h4 : 4 ≤ off) :
    Calls Tryf.prog 66 #[.pointer (some ⟨D, 514, none⟩)] wr fun e w' => e = .returned (.tuple #[]) ∧ ∃ off1 rd1, rd1 ≤ 32 ∧ off ≤ off1 + 4 ∧ St1 w0 D U T S G1 G2 H Z A n c l f0 sy bt bs R off1 rd1 a1 a2 out w' := by
  refine (fillFast_any h.hb (by omega) (h.hm.2.2.2.2.1.more (Nat.le_of_lt E.hHD)) hn h4).mono ?_
  rintro e w' ⟨rfl, off1, rd1, hb1, hL, h32, ho⟩
  exact ⟨rfl, off1, rd1, h32, ho, hb1.base, h.hm.reader E hb1.only, h.h1, h.h2, by rw [hL]; exact h.hr⟩
theorem St1.offCell (h : St1 w0 D U T S G1 G2 H Z A n c l f0 sy bt bs R off rd a1 a2 out wr) : wr.cell? ⟨D, 515, none⟩ = some (.int .u64 (off : Nat)) := by
  obtain ⟨f, val, hr, hk, hs, _⟩ := h.hb
  exact hr.cellv 515 (by omega) _ hs.2.1
end
end Go.Proofs.YthkklojjpgjiiaaFmt
