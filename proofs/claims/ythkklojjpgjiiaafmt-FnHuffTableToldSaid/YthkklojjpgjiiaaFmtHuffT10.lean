/-
  spec.zEncodedWeights. Conditions: those of the theorem.
-/
import Derived.Test.YthkklojjpgjiiaaFmtHuffT07
import Derived.Test.YthkklojjpgjiiaaFmtHuffT04
import Derived.Test.YthkklojjpgjiiaaFmtHuffT02
import Derived.Test.YthkklojjpgjiiaaFmtHuffT05
import Derived.Deep.RegionWith
import Derived.Deep.Cut
namespace Go.Proofs.YthkklojjpgjiiaaFmt
open Go.RowKit

def EncPost (w : World) (l : List UInt8) (e : Ending) (w' : World) : Prop :=
  ∃ R, EncR l R ∧ Below w.heap.size w w' ∧
    match R with
    | .open_ => ∃ v, e = .returned (.tuple #[v, .int .i64 2])
    | .refused => e = .returned (.tuple #[.slice none 0 0, .int .i64 1])
    | .good o => ∃ v, e = .returned (.tuple #[v, .int .i64 0]) ∧ OwnI w' w.heap.size v o

/-- all that the loop over the states leaves as it is, and what it turns -/
def EncSt (w : World) (B1 O AB T lg S : Nat) (cs : List Int) (A : Option Addr) (n c : Nat) (x0 x1 : Nat) (left : Int) (ov : Value) (out : List Int) (wr : World) : Prop :=
  wr.heap[AB]? = some (.cells #[.int .i64 (x0 : Nat), .int .i64 (x1 : Nat)] 131 (0, 0)) ∧
  wr.heap[B1]? = some (.cells #[.slice A n c, .int .i64 left] 133 (0, 0)) ∧
  wr.heap[O + 1]? = some (.cells #[.int .i64 (lg : Nat), .slice (some ⟨T, 0, none⟩) S S] 127 (0, 0)) ∧
  RowF wr T 135 (3 * S) (stV (symF cs S) (bitsF cs lg) (baseF cs lg)) ∧ OwnI wr O ov out ∧ (∀ k, ov.ownBlock = some k → k = O ∨ AB + 1 ≤ k) ∧ Below w.heap.size w wr ∧ AB + 1 ≤ wr.heap.size
section
variable {w wr w' : World} {B1 O AB T lg S : Nat} {cs : List Int} {A : Option Addr} {n c x0 x1 : Nat} {left : Int} {ov : Value} {out : List Int}
theorem EncSt.keep (h : EncSt w B1 O AB T lg S cs A n c x0 x1 left ov out wr) (hd : w.heap.size ≤ B1 ∧ B1 < O ∧ T < O ∧ O + 1 < AB) (hb : Below w.heap.size wr w') (hk : ∀ k, k < wr.heap.size → w'.heap[k]? = wr.heap[k]?) : EncSt w B1 O AB T lg S cs A n c x0 x1 left ov out w' := by
  obtain ⟨h1, h2, h3, h4, h5, h6, h7, h8⟩ := h
  refine ⟨(hk _ (by omega)).trans h1, (hk _ (by omega)).trans h2, (hk _ (by omega)).trans h3, h4.same (hk _ h4.lt), ?_, h6, h7.trans hb, Nat.le_trans h8 hb.size⟩
  exact OwnI.but h5 (g := B1) hd.2.1 hb.os hb.tape hb.output hb.size (fun k _ hk2 => hk k hk2)
/-- one number more -/
theorem EncSt.app (h : EncSt w B1 O AB T lg S cs A n c x0 x1 left ov out wr) (hd : w.heap.size ≤ B1 ∧ B1 < O ∧ T < O ∧ O + 1 < AB) {ov' : Value} {out' : List Int} (ho : OwnI w' O ov' out') (hg : wr.grownBy w' ov.ownBlock) (hv : ov'.ownBlock = ov.ownBlock ∨ ov'.ownBlock = some wr.heap.size) : EncSt w B1 O AB T lg S cs A n c x0 x1 left ov' out' w' := by
  obtain ⟨h1, h2, h3, h4, h5, h6, h7, h8⟩ := h
  have hk : ∀ k, k < wr.heap.size → k ≠ O → k < AB + 1 → w'.heap[k]? = wr.heap[k]? := fun k h9 h10 h11 => hg.block k h9 (fun e => by rcases h6 k e.symm with h | h <;> omega)
  refine ⟨(hk _ (by omega) (by omega) (by omega)).trans h1, (hk _ (by omega) (by omega) (by omega)).trans h2, (hk _ (by omega) (by omega) (by omega)).trans h3, h4.same (hk _ h4.lt (by omega) (by omega)), ho, ?_, ?_, Nat.le_trans h8 hg.size⟩
  · intro k e
    rcases hv with hv | hv
    · exact h6 k (by rw [← hv]; exact e)
    · rw [hv] at e; cases e; right; omega
  · exact h7.trans ⟨hg.os, hg.tape, hg.output, hg.size, fun k hk2 => hk k (by omega) (by omega) (by omega)⟩
/-- the reader goes on -/
theorem EncSt.read (h : EncSt w B1 O AB T lg S cs A n c x0 x1 left ov out wr) (hd : w.heap.size ≤ B1 ∧ B1 < O ∧ T < O ∧ O + 1 < AB) (hTB : T ≠ B1) {left' : Int} (hr : w'.heap[B1]? = some (.cells #[.slice A n c, .int .i64 left'] 133 (0, 0))) (hb : Below B1 wr w') (hk : ∀ k, k ≠ B1 → k < wr.heap.size → w'.heap[k]? = wr.heap[k]?) : EncSt w B1 O AB T lg S cs A n c x0 x1 left' ov out w' := by
  obtain ⟨h1, h2, h3, h4, h5, h6, h7, h8⟩ := h
  refine ⟨(hk _ (by omega) (by omega)).trans h1, hr, (hk _ (by omega) (by omega)).trans h3, h4.same (hk _ hTB h4.lt), ?_, h6, h7.trans (hb.mono hd.1), Nat.le_trans h8 hb.size⟩
  exact OwnI.but h5 (g := B1) hd.2.1 hb.os hb.tape hb.output hb.size (fun k hk1 hk2 => hk k hk1 hk2)
theorem EncSt.set0 (h : EncSt w B1 O AB T lg S cs A n c x0 x1 left ov out wr) (hd : w.heap.size ≤ B1 ∧ B1 < O ∧ T < O ∧ O + 1 < AB) (y : Nat) : EncSt w B1 O AB T lg S cs A n c y x1 left ov out (wr.setCell ⟨AB, 0, none⟩ (.int .i64 (y : Nat))) := by
  obtain ⟨h1, h2, h3, h4, h5, h6, h7, h8⟩ := h
  refine ⟨by simp [World.setCell, Array.getElem?_modify, h1], (setCell_heap _ (by simp; omega)).trans h2, (setCell_heap _ (by simp; omega)).trans h3, h4.other _ (by simp; omega), ?_, h6, h7.setCell (by simp; omega) _, by simp; omega⟩
  exact World.ownsRow.kept (row := some AB) h5 ⟨rfl, rfl, rfl, by simp, fun k _ hk2 => setCell_heap _ (fun e => hk2 (by rw [e]))⟩ (by cases hv : ov.ownBlock with | none => exact .inl rfl | some k => right; intro e; cases e; rcases h6 _ hv with h | h <;> omega)
theorem EncSt.set1 (h : EncSt w B1 O AB T lg S cs A n c x0 x1 left ov out wr) (hd : w.heap.size ≤ B1 ∧ B1 < O ∧ T < O ∧ O + 1 < AB) (y : Nat) : EncSt w B1 O AB T lg S cs A n c x0 y left ov out (wr.setCell ⟨AB, 1, none⟩ (.int .i64 (y : Nat))) := by
  obtain ⟨h1, h2, h3, h4, h5, h6, h7, h8⟩ := h
  refine ⟨by simp [World.setCell, Array.getElem?_modify, h1], (setCell_heap _ (by simp; omega)).trans h2, (setCell_heap _ (by simp; omega)).trans h3, h4.other _ (by simp; omega), ?_, h6, h7.setCell (by simp; omega) _, by simp; omega⟩
  exact World.ownsRow.kept (row := some AB) h5 ⟨rfl, rfl, rfl, by simp, fun k _ hk2 => setCell_heap _ (fun e => hk2 (by rw [e]))⟩ (by cases hv : ov.ownBlock with | none => exact .inl rfl | some k => right; intro e; cases e; rcases h6 _ hv with h | h <;> omega)
theorem EncSt.drewN (h : EncSt w B1 O AB T lg S cs A n c x0 x1 left ov out wr) (q : Nat) : EncSt w B1 O AB T lg S cs A n c x0 x1 left ov out (wr.drewN q) := ⟨h.1, h.2.1, h.2.2.1, h.2.2.2.1, h.2.2.2.2.1, h.2.2.2.2.2.1, below_drewN h.2.2.2.2.2.2.1 q, h.2.2.2.2.2.2.2⟩
theorem EncSt.alloc (h : EncSt w B1 O AB T lg S cs A n c x0 x1 left ov out wr) (hd : w.heap.size ≤ B1 ∧ B1 < O ∧ T < O ∧ O + 1 < AB) (o : Obj) : EncSt w B1 O AB T lg S cs A n c x0 x1 left ov out (wr.alloc o) :=
  h.keep hd ((below_new wr o).mono h.2.2.2.2.2.2.1.size) (fun k hk => (below_new wr o).block k hk)
end
/-- the length of a slice value -/
def lenOf (v : Value) : Nat := match v with | .slice _ n _ => n | _ => 0
/-- between two rounds of the turns -/
def RelE (w : World) (B1 O AB T lg S : Nat) (cs : List Int) (A : Option Addr) (n c : Nat) (Q : List Int → Nat → Nat → Nat → Prop) (ov tv : Value) (wr : World) : Prop :=
  ∃ (x0 x1 L t : Nat) (out : List Int), (t = 0 ∨ t = 1) ∧ tv = .int .i64 (t : Nat) ∧ EncSt w B1 O AB T lg S cs A n c x0 x1 (L : Nat) ov out wr ∧ x0 < S ∧ x1 < S ∧ L ≤ 2000 ∧ out.length ≤ 256 ∧
    (t = 0 → Q out L x0 x1) ∧ (t = 1 → Q out L x1 x0)
set_option maxRecDepth 100000 in
set_option maxHeartbeats 3200000 in
theorem zEncoded_any {w : World} {A : Option Addr} {n c : Nat} {l : List UInt8} (hs : Sl w w.heap.size A n c l) (hn : n ≤ 130) :
    Calls Tryf.prog 20 #[.slice A n c] w (EncPost w l) := by
  have KC := Lib.hid (zChances_any hs hn)
  have HS := Lib.hid hs
  have HN := Lib.hid hn
  have hnl := hs.len
  have HNL := Lib.hid hnl
  have hcm := hs.most
  have hcc := hs.cap
  clear hs hnl hn
  go_enter Tryf.func20, Tryf.ntmps20
  go_wp2_with fail
  refine KC.out.mono ?_
  rintro e w1 ⟨R0, hR0, hb1, ⟨rfl, rfl⟩ | ⟨cs, i, v, rfl, hov, rfl⟩⟩
  · have HR0 := Lib.hid hR0
    have HB1 := Lib.hid hb1
    clear hR0 hb1
    go_wp2_with fail
    go_ret2
    exact ⟨_, .bad HR0.out, HB1.out, rfl⟩
  · have hval := hR0.valid
    obtain ⟨x, hx⟩ : ∃ x, numF l 0 4 = x := ⟨_, rfl⟩
    rw [hx] at hval
    obtain ⟨sz, hsz⟩ : ∃ sz, (i + 7) / 8 = sz := ⟨_, rfl⟩
    have hszn : sz ≤ n := by have := hval.2.2.2.1; rw [HNL.out] at this; omega
    have HR0 := Lib.hid hR0
    have HB1 := Lib.hid hb1
    have HOV := Lib.hid hov
    have HVAL := Lib.hid hval
    have HX := Lib.hid hx
    have HSZ := Lib.hid hsz
    rw [hx, hsz]
    clear hR0 hb1 hov hval hx hsz
    have hsl := (HS.out.below HB1.out).nextA sz hszn
    obtain ⟨A4, hA4⟩ : ∃ A4, (if c = sz then A else Option.map (fun x => x.add sz) A) = A4 := ⟨_, rfl⟩
    rw [hA4] at hsl
    obtain ⟨r, hr⟩ : ∃ r, l.drop sz = r := ⟨_, rfl⟩
    rw [hr] at hsl
    have HSLW : Hid (Sl w w.heap.size A4 (n - sz) (c - sz) r) := Lib.hid (by have h := HS.out.nextA sz hszn; rw [hA4, hr] at h; exact h)
    have KB := Lib.hid (zBackOf_any hsl (by have := HN.out; omega))
    have HSL := Lib.hid hsl
    have HR := Lib.hid hr
    clear hsl hr
    go_wp2_with fail
    refine KB.out.mono ?_
    clear hA4
    rintro e w2 (⟨hbad, rfl, rfl⟩ | ⟨hne, hlast, rfl, rfl⟩)
    · have HBAD := Lib.hid hbad
      clear hbad
      go_wp2_with fail
      go_ret2
      exact ⟨_, .noEnd HR0.out (by rw [HSZ.out, HR.out]; exact HBAD.out), HB1.out, rfl⟩
    · have HNE := Lib.hid hne
      have HLAST := Lib.hid hlast
      clear hne hlast
      obtain ⟨lg, hlg⟩ : ∃ lg, x + 5 = lg := ⟨_, rfl⟩
      obtain ⟨S, hS⟩ : ∃ S, 2 ^ lg = S := ⟨_, rfl⟩
      have hlgS : lg = 5 ∧ S = 32 ∨ lg = 6 ∧ S = 64 := by have := lg_cases x HVAL.out.2.2.2.2.1; rw [hlg, hS] at this; exact this
      have hsum : sumA cs = S := by have := HVAL.out.2.1; rwa [hlg, hS] at this
      obtain ⟨m, hm⟩ : ∃ m, cs.length = m := ⟨_, rfl⟩
      have hm1 : 1 ≤ m := by rw [← hm]; exact sumA_pos_len cs (by omega)
      have hm2 : m ≤ 256 := by rw [← hm]; exact HVAL.out.2.2.1
      have hwn : w.heap.size ≤ w1.heap.size := HB1.out.size
      obtain ⟨L, hL⟩ : ∃ L, backL r = L := ⟨_, rfl⟩
      rw [hL]
      obtain ⟨wb, hwb⟩ : ∃ wb, w1.alloc (.cells #[.slice A4 (n - sz) (c - sz), .int .i64 (L : Nat)] 133) = wb := ⟨_, rfl⟩
      have hbb : Below w1.heap.size w1 wb := by rw [← hwb]; exact below_new _ _
      have hrb : wb.heap[w1.heap.size]? = some (.cells #[.slice A4 (n - sz) (c - sz), .int .i64 (L : Nat)] 133 (0, 0)) := by rw [← hwb]; exact heap_alloc_new _ _
      have hovb : OwnI wb w.heap.size v cs := by rw [← hwb]; exact HOV.out.alloc _
      have hszb : wb.heap.size = w1.heap.size + 1 := by rw [← hwb]; simp
      rw [hwb]
      obtain ⟨G, cG, hvG, hG1, hG2, hGc⟩ : ∃ G cG, v = .slice (some ⟨G, 0, none⟩) m cG ∧ w.heap.size ≤ G ∧ G < w1.heap.size ∧ ∀ k, k < m → wb.cell? ⟨G, k, none⟩ = some (.int .i64 (cs.getD k 0)) := by
        obtain ⟨G, cG, h1, h2, h3, h4⟩ := HOV.out.open_ (by omega)
        rw [hm] at h1 h4
        exact ⟨G, cG, h1, h2, h3, fun k hk => (hbb.cell (p := ⟨G, k, none⟩) h3).trans (h4 k hk)⟩
      have KT := zTableOf_any (c := cG) hlgS (by omega) hm hm1 hm2 hGc HVAL.out.1 hsum
      rw [show ((lg : Nat) : Int) = (x : Int) + 5 by omega] at KT
      have HKT := Lib.hid KT
      have HLG := Lib.hid hlg
      have HS2 := Lib.hid hS
      have HLGS := Lib.hid hlgS
      have HSUM := Lib.hid hsum
      have HM := Lib.hid hm
      have HL := Lib.hid hL
      have HBB := Lib.hid hbb
      have HRB := Lib.hid hrb
      have HOVB := Lib.hid hovb
      have HZB := Lib.hid hszb
      subst hvG
      clear hlg hS hlgS hsum hm hL hwb hbb hrb hovb hszb hGc KT
      go_wp2_with fail
      refine HKT.out.mono ?_
      rintro e w3 ⟨T, hT1, rfl, hT2, hT3⟩
      rw [HS2.out] at hT2 ⊢
      have HT2 := Lib.hid hT2
      have HT3 := Lib.hid hT3
      have HTL := Lib.hid hT2.lt
      clear hT2 hT3
      have hbd3 : Below w.heap.size w w3 := (HB1.out.trans (HBB.out.mono hwn)).trans (HT3.out.mono (by have := HZB.out; omega))
      have h3s : w.heap.size < w3.heap.size := by have := HT3.out.size; have := HZB.out; omega
      have hrb3 : w3.heap[w1.heap.size]? = some (.cells #[.slice A4 (n - sz) (c - sz), .int .i64 (L : Nat)] 133 (0, 0)) := (HT3.out.block _ (by have := HZB.out; omega)).trans HRB.out
      have hg3 : w1.heap.size < w3.heap.size := by have := HT3.out.size; have := HZB.out; omega
      have HB3 := Lib.hid hbd3
      have HS3 := Lib.hid h3s
      have HR3 := Lib.hid hrb3
      have HG3 := Lib.hid hg3
      have HWN := Lib.hid hwn
      have HT1 := Lib.hid hT1
      clear hbd3 h3s hrb3 hg3 hwn hT1
      go_wp2_with fail
      obtain ⟨wl, hwl⟩ : ∃ wl, (w3.alloc (.cells #[] 3)).alloc (.cells #[.int .i64 (lg : Nat), .slice (some ⟨T, 0, none⟩) S S] 127) = wl := ⟨_, rfl⟩
      have hfl := alloc2_facts (wa := w3) rfl (.cells #[] 3) (.cells #[.int .i64 (lg : Nat), .slice (some ⟨T, 0, none⟩) S S] 127)
      rw [hwl] at hfl
      have hol : OwnI wl w3.heap.size (.slice (some ⟨w3.heap.size, 0, none⟩) 0 0) [] := by rw [← hwl]; exact (OwnI.lit w3 (Nat.le_refl _)).alloc _
      have hsl : wl.heap.size = w3.heap.size + 2 := by rw [← hwl]; simp
      have hrt : RowF wl T 135 (3 * S) (stV (symF cs S) (bitsF cs lg) (baseF cs lg)) := HT2.out.below hfl.2.2.2 HTL.out
      have KL := Lib.hid (loops_any (lg : Nat) hrt (by have := HLGS.out; omega))
      rw [hwl]
      have HFL := Lib.hid hfl
      have HOL := Lib.hid hol
      have HSZL := Lib.hid hsl
      have HRT := Lib.hid hrt
      clear hwl hfl hol hsl hrt
      refine KL.out.mono ?_
      rintro e w4 ⟨hlp, hb4⟩
      have HB4 := Lib.hid hb4
      have HLP := Lib.hid hlp
      clear hb4 hlp
      rcases HLP.out with ⟨hlo, rfl⟩ | ⟨hlo, rfl⟩
      · have HLO := Lib.hid hlo
        clear hlo
        go_wp2_with fail
        go_ret2
        exact ⟨.open_, .loops HR0.out (by rw [HX.out, HLG.out]; unfold LoopsF; rw [HS2.out]; exact HLO.out), (HB3.out.trans (HFL.out.2.2.2.mono (by have := HS3.out; omega))).trans (HB4.out.mono (by have := HSZL.out; have := HS3.out; omega)), _, rfl⟩
      · have HLO := Lib.hid hlo
        clear hlo
        have hz4 : w3.heap.size + 2 ≤ w4.heap.size := by have := HB4.out.size; have := HSZL.out; omega
        have HZ4 := Lib.hid hz4
        have t0 : w4.cell? ⟨w3.heap.size + 1, 0, none⟩ = some (.int .i64 (lg : Nat)) := cell_of_row w4 _ 0 _ _ (0, 0) ((HB4.out.block _ (by have := HSZL.out; omega)).trans HFL.out.2.1)
        have t1 : w4.cell? ⟨w3.heap.size + 1, 1, none⟩ = some (.slice (some ⟨T, 0, none⟩) S S) := cell_of_row w4 _ 1 _ _ (0, 0) ((HB4.out.block _ (by have := HSZL.out; omega)).trans HFL.out.2.1)
        clear hz4
        have hb40 : Below w.heap.size w w4 := (HB3.out.trans (HFL.out.2.2.2.mono (by have := HS3.out; omega))).trans (HB4.out.mono (by have := HSZL.out; have := HS3.out; omega))
        have hsl4 : Sl w4 w.heap.size A4 (n - sz) (c - sz) r := by
          have h1 := HSL.out
          exact h1.below (((HBB.out.mono HWN.out).trans (HT3.out.mono (by have := HZB.out; have := HWN.out; omega))).trans ((HFL.out.2.2.2.mono (by have := HS3.out; omega)).trans (HB4.out.mono (by have := HSZL.out; have := HS3.out; omega))))
        have hr4 : w4.heap[w1.heap.size]? = some (.cells #[.slice A4 (n - sz) (c - sz), .int .i64 ((L : Nat) : Int)] 133 (0, 0)) := (HB4.out.block _ (by have := HSZL.out; have := HG3.out; omega)).trans ((HFL.out.2.2.1 _ HG3.out).trans HR3.out)
        have hLb : L ≤ 8 * 130 := by
          rw [← HL.out]
          unfold backL
          have h1 := hsl4.len
          have h2 := HN.out
          have h3 : lastB r < 2 ^ 8 := UInt8.toNat_lt _
          have h4 : (lastB r).log2 < 8 := (Nat.log2_lt HLAST.out).2 h3
          have : r.length ≠ 0 := fun h => HNE.out (List.length_eq_zero_iff.1 h)
          omega
        have K1 := Lib.hid (table_first hsl4 (by have := HN.out; omega) lg (L : Nat) (lg : Nat) (.slice (some ⟨T, 0, none⟩) S S) (by omega) (by have := HLGS.out; omega) rfl HWN.out hr4 (by have := HG3.out; have := HZ4.out; omega))
        have HB40 := Lib.hid hb40
        have HSL4 := Lib.hid hsl4
        have HLB := Lib.hid hLb
        clear hb40 hsl4 hr4 hLb
        go_wp2_with fail
        refine K1.out.mono ?_
        rintro e w5 ⟨rfl, hr5, hb5, hk5⟩
        have HR5 := Lib.hid hr5
        have HB5 := Lib.hid hb5
        have HK5 := Lib.hid hk5
        obtain ⟨s1, hs1⟩ : ∃ s1, numB r (L : Nat) lg = s1 := ⟨_, rfl⟩
        rw [hs1]
        have HS1 := Lib.hid hs1
        have hz5 : w3.heap.size + 1 < w5.heap.size := by have := hb5.size; have := HZ4.out; omega
        clear hr5 hb5 hk5 hs1 t0 t1
        have t0 : w5.cell? ⟨w3.heap.size + 1, 0, none⟩ = some (.int .i64 (lg : Nat)) := cell_of_row w5 _ 0 _ _ (0, 0) ((HK5.out _ (by have := HG3.out; omega) (by have := HZ4.out; omega)).trans ((HB4.out.block _ (by have := HSZL.out; omega)).trans HFL.out.2.1))
        have t1 : w5.cell? ⟨w3.heap.size + 1, 1, none⟩ = some (.slice (some ⟨T, 0, none⟩) S S) := cell_of_row w5 _ 1 _ _ (0, 0) ((HK5.out _ (by have := HG3.out; omega) (by have := HZ4.out; omega)).trans ((HB4.out.block _ (by have := HSZL.out; omega)).trans HFL.out.2.1))
        go_wp2_with fail
        obtain ⟨w6, hw6⟩ : ∃ w6, w5.alloc (.cells #[.int .i64 (s1 : Nat), .int .i64 0] 131) = w6 := ⟨_, rfl⟩
        rw [hw6]
        have hb6 : Below w5.heap.size w5 w6 := by rw [← hw6]; exact below_new _ _
        have hz6 : w6.heap.size = w5.heap.size + 1 := by rw [← hw6]; simp
        have hn6 : w6.heap[w5.heap.size]? = some (.cells #[.int .i64 (s1 : Nat), .int .i64 0] 131 (0, 0)) := by rw [← hw6]; exact heap_alloc_new _ _
        have hb60 : Below w.heap.size w w6 := (HB40.out.trans (HB5.out.mono HWN.out)).trans (hb6.mono (by have := HS3.out; omega))
        have hsl6 : Sl w6 w.heap.size A4 (n - sz) (c - sz) r := HSL4.out.below ((HB5.out.mono HWN.out).trans (hb6.mono (by have := HS3.out; omega)))
        have hr6 : w6.heap[w1.heap.size]? = some (.cells #[.slice A4 (n - sz) (c - sz), .int .i64 ((L : Int) - (lg : Nat))] 133 (0, 0)) := (hb6.block _ (by have := HG3.out; omega)).trans HR5.out
        have K2 := Lib.hid (table_first hsl6 (by have := HN.out; omega) lg ((L : Int) - (lg : Nat)) (lg : Nat) (.slice (some ⟨T, 0, none⟩) S S) (by have := HLGS.out; have := HLB.out; omega) (by have := HLGS.out; omega) rfl HWN.out hr6 (by have := HG3.out; omega))
        have HB6 := Lib.hid hb6
        have HZ6 := Lib.hid hz6
        have HN6 := Lib.hid hn6
        have HB60 := Lib.hid hb60
        have HSL6 := Lib.hid hsl6
        have HZ5 := Lib.hid hz5
        clear hw6 hb6 hz6 hn6 hb60 hsl6 hr6 hz5 t0 t1
        refine K2.out.mono ?_
        rintro e w7 ⟨rfl, hr7, hb7, hk7⟩
        obtain ⟨s2, hs2⟩ : ∃ s2, numB r ((L : Int) - (lg : Nat)) lg = s2 := ⟨_, rfl⟩
        rw [hs2]
        have HS2' := Lib.hid hs2
        have hz7 : w5.heap.size < w7.heap.size := by have := hb7.size; have := HZ6.out; omega
        have hn7 : w7.heap[w5.heap.size]? = some (.cells #[.int .i64 (s1 : Nat), .int .i64 0] 131 (0, 0)) := (hk7 _ (by have := HZ5.out; have := HG3.out; omega) (by have := HZ6.out; omega)).trans HN6.out
        have a1 : w7.cell? ⟨w5.heap.size, 1, none⟩ = some (.int .i64 0) := cell_of_row w7 _ 1 _ _ (0, 0) hn7
        have fa1 : w7.frozen? ⟨w5.heap.size, 1, none⟩ = false := frozen_of_row w7 _ 1 _ _ hn7
        have b1 : w7.cell? ⟨w1.heap.size, 1, none⟩ = some (.int .i64 ((L : Int) - (lg : Nat) - (lg : Nat))) := cell_of_row w7 _ 1 _ _ (0, 0) hr7
        have hne1 : ¬ w5.heap.size = w1.heap.size := by have := HZ5.out; have := HG3.out; omega
        have hne2 : ¬ w1.heap.size = w5.heap.size := fun h => hne1 h.symm
        have HR7 := Lib.hid hr7
        have HB7 := Lib.hid hb7
        have HK7 := Lib.hid hk7
        have HN7 := Lib.hid hn7
        clear hs2 hr7 hb7 hk7 hn7
        by_cases hlong : 2 * lg ≤ L
        · have hd : decide ((L : Int) - (lg : Nat) - (lg : Nat) < 0) = false := decide_eq_false (by omega)
          have hd3 : w.heap.size ≤ w1.heap.size ∧ w1.heap.size < w3.heap.size ∧ T < w3.heap.size ∧ w3.heap.size + 1 < w5.heap.size := ⟨HWN.out, HG3.out, HTL.out, HZ5.out⟩
          have hTB : T ≠ w1.heap.size := by have := HT1.out; have := HZB.out; omega
          have hq1 : s1 = numF r (L - lg) lg := by rw [← HS1.out]; exact numB_eq r L lg (by omega)
          have hq2 : s2 = numF r (L - 2 * lg) lg := by
            rw [← HS2'.out, show (L : Int) - (lg : Nat) = ((L - lg : Nat) : Int) by omega, numB_eq r (L - lg) lg (by omega)]
            congr 1
            omega
          have hs1S : s1 < S := by rw [hq1, ← HS2.out]; exact numF_lt _ _ _
          have hs2S : s2 < S := by rw [hq2, ← HS2.out]; exact numF_lt _ _ _
          have hk45 : ∀ k, k ≠ w1.heap.size → k < w3.heap.size + 2 → k ≠ w5.heap.size → w7.heap[k]? = w4.heap[k]? := fun k h1 h2 _ => (HK7.out k h1 (by have := HZ6.out; have := HB5.out.size; have := HZ4.out; omega)).trans ((HB6.out.block k (by have := HB5.out.size; have := HZ4.out; omega)).trans (HK5.out k h1 (by have := HZ4.out; omega)))
          have hE0 : EncSt w w1.heap.size w3.heap.size w5.heap.size T lg S cs A4 (n - sz) (c - sz) s1 s2 ((L - 2 * lg : Nat) : Int) (.slice (some ⟨w3.heap.size, 0, none⟩) 0 0) [] (w7.setCell ⟨w5.heap.size, 1, none⟩ (.int .i64 (s2 : Nat))) := by
            refine EncSt.set1 (y := s2) (x1 := 0) ?_ hd3
            refine ⟨HN7.out, ?_, ?_, ?_, ?_, ?_, HB60.out.trans (HB7.out.mono HWN.out), by have := HB7.out.size; have := HZ6.out; omega⟩
            · rw [HR7.out, show (L : Int) - (lg : Nat) - (lg : Nat) = ((L - 2 * lg : Nat) : Int) by omega]
            · exact (hk45 _ (by have := HG3.out; omega) (by omega) (by have := HZ5.out; omega)).trans ((HB4.out.block _ (by have := HSZL.out; omega)).trans HFL.out.2.1)
            · exact HRT.out.same ((hk45 _ hTB (by have := HTL.out; omega) (by have := HZ5.out; have := HTL.out; omega)).trans (HB4.out.block _ (by have := HSZL.out; have := HTL.out; omega)))
            · have h1 : OwnI w4 w3.heap.size (.slice (some ⟨w3.heap.size, 0, none⟩) 0 0) [] := OwnI.but HOL.out (g := w1.heap.size) HG3.out HB4.out.os HB4.out.tape HB4.out.output HB4.out.size (fun k _ hk => HB4.out.block k hk)
              have h2 : OwnI w5 w3.heap.size (.slice (some ⟨w3.heap.size, 0, none⟩) 0 0) [] := OwnI.but h1 (g := w1.heap.size) HG3.out HB5.out.os HB5.out.tape HB5.out.output HB5.out.size HK5.out
              have h3 : OwnI w6 w3.heap.size (.slice (some ⟨w3.heap.size, 0, none⟩) 0 0) [] := OwnI.but h2 (g := w1.heap.size) HG3.out HB6.out.os HB6.out.tape HB6.out.output HB6.out.size (fun k _ hk => HB6.out.block k hk)
              exact OwnI.but h3 (g := w1.heap.size) HG3.out HB7.out.os HB7.out.tape HB7.out.output HB7.out.size HK7.out
            · intro k e; cases e; exact .inl rfl
          have HE0 := Lib.hid hE0
          have HD3 := Lib.hid hd3
          have HTB := Lib.hid hTB
          have HQ1 := Lib.hid hq1
          have HQ2 := Lib.hid hq2
          have HLONG := Lib.hid hlong
          have HS1S := Lib.hid hs1S
          have HS2S := Lib.hid hs2S
          clear hk45 hE0 hd3 hTB hq1 hq2 hlong hs1S hs2S
          go_wp2_with fail
          go_loopw [11, 13] (RelE w w1.heap.size w3.heap.size w5.heap.size T lg S cs A4 (n - sz) (c - sz) (fun out L' a b => ∀ R, SR (symF cs S) (bitsF cs lg) (baseF cs lg) r L' a b out R → SR (symF cs S) (bitsF cs lg) (baseF cs lg) r (L - 2 * lg) s1 s2 [] R)) (fun ov _ _ => 257 - (lenOf ov))
          case atStart => exact ⟨s1, s2, L - 2 * lg, 0, [], .inl rfl, rfl, HE0.out, HS1S.out, HS2S.out, by have := HLB.out; omega, by simp, fun _ R h => h, fun h => by omega⟩
          case round =>
            obtain ⟨x0, x1, L', t, out, ht, rfl, hE, hx0, hx1, hL', hol, hQ0, hQ1⟩ := hrel
            have HE := Lib.hid hE
            obtain ⟨A', c', hov, hc1, hc2⟩ := hE.2.2.2.2.1.len
            obtain ⟨m, hm⟩ : ∃ m, out.length = m := ⟨_, rfl⟩
            rw [hm] at hov
            subst hov
            have HM1 := Lib.hid hm
            have HC2 := Lib.hid hc2
            have HQA := Lib.hid hQ0
            have HQB := Lib.hid hQ1
            have HOLB := Lib.hid hol
            have HL' := Lib.hid hL'
            clear hE hm hc1 hc2 hQ0 hQ1 hol hL'
            rcases ht with rfl | rfl
            · have hab : x0 < S := hx0
              have ra : wr.cell? ⟨w5.heap.size, 0, none⟩ = some (.int .i64 (x0 : Nat)) := cell_of_row wr _ 0 _ _ (0, 0) HE.out.1
              have fa : wr.frozen? ⟨w5.heap.size, 0, none⟩ = false := frozen_of_row wr _ 0 _ _ HE.out.1
              have rb : wr.cell? ⟨w5.heap.size, 1, none⟩ = some (.int .i64 (x1 : Nat)) := cell_of_row wr _ 1 _ _ (0, 0) HE.out.1
              have rt : wr.cell? ⟨w3.heap.size + 1, 1, none⟩ = some (.slice (some ⟨T, 0, none⟩) S S) := cell_of_row wr _ 1 _ _ (0, 0) HE.out.2.2.1
              obtain ⟨sy, hsy⟩ : ∃ sy, symF cs S x0 = sy := ⟨_, rfl⟩
              have rs : wr.cell? ⟨T, x0 * 3, none⟩ = some (.int .i64 (sy : Nat)) := HE.out.2.2.2.1.cellv _ (by omega) _ (by rw [(stV_at _ _ _ x0).1, hsy])
              by_cases hfull : 255 < out.length
              · have hd1 : decide ((m : Int) ≤ 255) = false := decide_eq_false (by have := HM1.out; omega)
                have HFULL := Lib.hid hfull
                clear hfull
                go_wp2_with fail
                go_ret2
                refine ⟨.refused, .run HR0.out (by rw [HX.out, HLG.out]) HS2.out (by rw [HSZ.out, HR.out]) HNE.out HLAST.out (by rintro ⟨i2, h3, h4⟩; rw [HS2.out] at h3; exact HLO.out i2 h3 h4) HL.out HLONG.out (by rw [← HQ1.out, ← HQ2.out]; exact HQA.out (by first | rfl | trivial) _ (.full HFULL.out)), HE.out.2.2.2.2.2.2.1, rfl⟩
              · have hd1 : decide ((m : Int) ≤ 255) = true := decide_eq_true (by have := HM1.out; omega)
                have HSY := Lib.hid hsy
                have HFULL := Lib.hid hfull
                clear hsy hfull
                go_wp2_with fail
                refine wp_region_tail0 8 (by kernel_rfl) (by kernel_rfl) (.tmp 11) rfl rfl (fun _ _ _ _ h => h) ?_
                simp only [List.take_succ_cons, List.take_zero, List.drop_succ_cons, List.drop_zero]
                simp [Act.put, Act.eval]
                repeat (go_big_quiet_step (fail))
                refine wpQuiet_nil ?_
                have hEd := HE.out.drewN 1
                obtain ⟨wd, hwd⟩ : ∃ wd, wr.drewN 1 = wd := ⟨_, rfl⟩
                rw [hwd] at hEd
                rw [hwd]
                have HEd := Lib.hid hEd
                have HE2 := Lib.hid (hEd.alloc HD3.out (.cells #[.int .i64 (sy : Nat)] 3))
                have hc2 : Hid ((wd.alloc (.cells #[.int .i64 (sy : Nat)] 3)).cell? ⟨wd.heap.size, 0, none⟩ = some (.int .i64 (sy : Nat))) := Lib.hid (cell_of_row _ _ 0 _ _ (0, 0) (heap_alloc_new _ _))
                clear hEd hwd ra fa rb rt rs
                go_step
                go_step
                go_step
                refine wpList_append_i2 _ rfl (.tmp 62) (.tmp 71) rfl w3.heap.size (.slice A' m c') out rfl HE2.out.2.2.2.2.1 wd.heap.size rfl (sy : Nat) hc2.out (by have := HOLB.out; omega) (by have := HEd.out.2.2.2.2.2.2.2; have := HD3.out; simp; omega) ?_
                intro v4 w8 ho8 hg8 hv8
                have hE8 := HE2.out.app HD3.out ho8 hg8 hv8
                have HE8 := Lib.hid hE8
                clear ho8 hg8 hv8 hE8
                have ra : w8.cell? ⟨w5.heap.size, 0, none⟩ = some (.int .i64 (x0 : Nat)) := cell_of_row w8 _ 0 _ _ (0, 0) HE8.out.1
                have fa : w8.frozen? ⟨w5.heap.size, 0, none⟩ = false := frozen_of_row w8 _ 0 _ _ HE8.out.1
                have rt0 : w8.cell? ⟨w3.heap.size + 1, 0, none⟩ = some (.int .i64 (lg : Nat)) := cell_of_row w8 _ 0 _ _ (0, 0) HE8.out.2.2.1
                have rt : w8.cell? ⟨w3.heap.size + 1, 1, none⟩ = some (.slice (some ⟨T, 0, none⟩) S S) := cell_of_row w8 _ 1 _ _ (0, 0) HE8.out.2.2.1
                have rl : w8.cell? ⟨w1.heap.size, 1, none⟩ = some (.int .i64 (L' : Nat)) := cell_of_row w8 _ 1 _ _ (0, 0) HE8.out.2.1
                obtain ⟨bt, hbt⟩ : ∃ bt, bitsF cs lg x0 = bt := ⟨_, rfl⟩
                obtain ⟨bs, hbs⟩ : ∃ bs, baseF cs lg x0 = bs := ⟨_, rfl⟩
                have hnl := next_lt cs lg S x0 0 HLGS.out HVAL.out.1 HSUM.out HVAL.out.2.2.1 hab (Nat.two_pow_pos _)
                have hst := stV_at (symF cs S) (bitsF cs lg) (baseF cs lg) x0
                rw [hbt, hbs] at hnl
                rw [HSY.out, hbt, hbs] at hst
                have hRT8 := HE8.out.2.2.2.1
                have HKA := Lib.hid (fun q => table_after (w := w8.drewN q) (T := T) (o := 0) (ns := S) (cs := S) (B := w.heap.size) (HSLW.out.below (below_drewN HE8.out.2.2.2.2.2.2.1 q)) (by have := HN.out; omega) lg x0 (L' : Nat) sy bt bs hab (by have := HL'.out; omega) (by have := HLGS.out; omega) HWN.out (by have := HLGS.out; omega)
                  (hRT8.cellv _ (by omega) _ (by rw [Nat.zero_add]; exact hst.1)) (hRT8.cellv _ (by omega) _ (by rw [Nat.zero_add]; exact hst.2.1)) (hRT8.cellv _ (by omega) _ (by rw [Nat.zero_add]; exact hst.2.2)) HE8.out.2.1 (by have := HE8.out.2.2.2.2.2.2.2; have := HD3.out; show w1.heap.size < w8.heap.size; omega))
                have HBT := Lib.hid hbt
                have HBS := Lib.hid hbs
                have HNL2 := Lib.hid hnl
                have hsx : (x0 : Int) < (S : Int) := by omega
                clear hst hRT8 hbt hbs hnl
                go_upto_region 21 with (fail)
                go_region_with (go_at_call 41; refine (HKA.out _).mono ?_; rintro en w9 ⟨rfl, hr9, hb9, hk9⟩; have HE9 := Lib.hid ((HE8.out.drewN _).read HD3.out HTB.out hr9 hb9 hk9); have ra9 : w9.cell? ⟨w5.heap.size, 0, none⟩ = some (.int .i64 (x0 : Nat)) := cell_of_row w9 _ 0 _ _ (0, 0) HE9.out.1; have fa9 : w9.frozen? ⟨w5.heap.size, 0, none⟩ = false := frozen_of_row w9 _ 0 _ _ HE9.out.1; clear hr9 hb9 hk9)
                all_goals
                  by_cases hle : bt ≤ L'
                  · have hd22 : decide ((L' : Int) - (bt : Int) < 0) = false := decide_eq_false (by omega)
                    have rl9 : w9.cell? ⟨w1.heap.size, 1, none⟩ = some (.int .i64 ((L' : Int) - (bt : Int))) := cell_of_row w9 _ 1 _ _ (0, 0) HE9.out.2.1
                    have hne1 : ¬ w5.heap.size = w1.heap.size := by have := HD3.out; omega
                    go_wp2_with fail
                    have hN : numB r (L' : Int) bt = numF r (L' - bt) bt := numB_eq r L' bt hle
                    have hNl := next_lt cs lg S x0 (numF r (L' - bt) bt) HLGS.out HVAL.out.1 HSUM.out HVAL.out.2.2.1 hab (by rw [HBT.out]; exact numF_lt _ _ _)
                    rw [HBS.out] at hNl
                    have hE10 := HE9.out.set0 HD3.out (bs + numF r (L' - bt) bt)
                    have hlen : (out ++ [(sy : Int)]).length = m + 1 := by rw [List.length_append, HM1.out]; rfl
                    obtain ⟨A9, c9, hv9, _, _⟩ := HE8.out.2.2.2.2.1.len
                    refine ⟨⟨bs + numF r (L' - bt) bt, x1, L' - bt, 1, out ++ [(sy : Int)], .inr rfl, rfl, ?_, hNl.1, hx1, by have := HL'.out; omega, by rw [hlen]; have := HM1.out; have := HFULL.out; omega, (fun h => by cases h), (fun _ R h => HQA.out (by first | rfl | trivial) R (.next (by have := HFULL.out; omega) (by rw [HBT.out]; exact hle) (by rw [HBT.out, HBS.out, HSY.out]; exact h)))⟩, ?_⟩
                    · rw [hN, show (bs : Int) + ((numF r (L' - bt) bt : Nat) : Int) = ((bs + numF r (L' - bt) bt : Nat) : Int) by omega]
                      rw [show (L' : Int) - ((bt : Nat) : Int) = ((L' - bt : Nat) : Int) by omega] at hE10
                      exact hE10
                    · rw [hv9, hlen]
                      show 257 - (m + 1) < 257 - m
                      have := HM1.out; have := HFULL.out; omega
                  · have hd22 : decide ((L' : Int) - (bt : Int) < 0) = true := decide_eq_true (by omega)
                    have rl9 : w9.cell? ⟨w1.heap.size, 1, none⟩ = some (.int .i64 ((L' : Int) - (bt : Int))) := cell_of_row w9 _ 1 _ _ (0, 0) HE9.out.2.1
                    have hne1 : ¬ w5.heap.size = w1.heap.size := by have := HD3.out; omega
                    have HE10 := Lib.hid (HE9.out.set0 HD3.out (bs + numB r (L' : Int) bt))
                    have hcast : (bs : Int) + ((numB r (L' : Int) bt : Nat) : Int) = ((bs + numB r (L' : Int) bt : Nat) : Int) := by omega
                    obtain ⟨N, hN⟩ : ∃ N, bs + numB r (L' : Int) bt = N := ⟨_, rfl⟩
                    rw [hN] at HE10 hcast
                    rw [hcast]
                    have HLE := Lib.hid hle
                    clear hle hcast hN
                    go_upto_if 89 with (fail)
                    clear ra fa rt0 rt rl ra9 fa9 rl9
                    obtain ⟨wz, hwz⟩ : ∃ wz, w9.setCell ⟨w5.heap.size, 0, none⟩ (.int .i64 (N : Nat)) = wz := ⟨_, rfl⟩
                    have HEz : Hid (EncSt w w1.heap.size w3.heap.size w5.heap.size T lg S cs A4 (n - sz) (c - sz) N x1 ((L' : Int) - (bt : Nat)) v4 (out ++ [(sy : Int)]) wz) := by rw [← hwz]; exact HE10
                    rw [hwz]
                    clear hwz
                    obtain ⟨sy2, hsy2⟩ : ∃ sy2, symF cs S x1 = sy2 := ⟨_, rfl⟩
                    have rbz : wz.cell? ⟨w5.heap.size, 1, none⟩ = some (.int .i64 (x1 : Nat)) := cell_of_row wz _ 1 _ _ (0, 0) HEz.out.1
                    have rtz : wz.cell? ⟨w3.heap.size + 1, 1, none⟩ = some (.slice (some ⟨T, 0, none⟩) S S) := cell_of_row wz _ 1 _ _ (0, 0) HEz.out.2.2.1
                    have rsz : wz.cell? ⟨T, x1 * 3, none⟩ = some (.int .i64 (sy2 : Nat)) := HEz.out.2.2.2.1.cellv _ (by omega) _ (by rw [(stV_at _ _ _ x1).1, hsy2])
                    have HSY2 := Lib.hid hsy2
                    have hsx2 : (x1 : Int) < (S : Int) := by omega
                    clear hsy2
                    go_wp2_with fail
                    refine wp_region_tail0 9 (by kernel_rfl) (by kernel_rfl) (.tmp 11) rfl rfl (fun _ _ _ _ h => h) ?_
                    simp only [List.take_succ_cons, List.take_zero, List.drop_succ_cons, List.drop_zero]
                    simp [Act.put, Act.eval]
                    repeat (go_big_quiet_step (fail))
                    refine wpQuiet_nil ?_
                    have hEd2 := HEz.out.drewN 1
                    obtain ⟨we, hwe⟩ : ∃ we, wz.drewN 1 = we := ⟨_, rfl⟩
                    rw [hwe] at hEd2
                    rw [hwe]
                    have HEd2 := Lib.hid hEd2
                    have HE3 := Lib.hid (hEd2.alloc HD3.out (.cells #[.int .i64 (sy2 : Nat)] 3))
                    have hc3 : Hid ((we.alloc (.cells #[.int .i64 (sy2 : Nat)] 3)).cell? ⟨we.heap.size, 0, none⟩ = some (.int .i64 (sy2 : Nat))) := Lib.hid (cell_of_row _ _ 0 _ _ (0, 0) (heap_alloc_new _ _))
                    clear hEd2 hwe rbz rtz rsz
                    go_step
                    go_step
                    go_step
                    refine wpList_append_i2 _ rfl (.tmp 90) (.tmp 100) rfl w3.heap.size v4 (out ++ [(sy : Int)]) rfl HE3.out.2.2.2.2.1 we.heap.size rfl (sy2 : Nat) hc3.out (by rw [List.length_append]; have := HOLB.out; simp; omega) (by have := HEd2.out.2.2.2.2.2.2.2; have := HD3.out; simp; omega) ?_
                    intro v5 wf hof hgf hvf
                    have hEf := HE3.out.app HD3.out hof hgf hvf
                    obtain ⟨A5, c5, hv5, hc51, hc52⟩ := hof.len
                    rw [show (out ++ [(sy : Int)] ++ [(sy2 : Int)]).length = m + 2 by simp [HM1.out]] at hv5
                    subst hv5
                    have HEf := Lib.hid hEf
                    clear hof hgf hvf hEf hc51 hc52
                    have hbt0 : 0 < bt := by have := HLE.out; omega
                    have HBT0 := Lib.hid hbt0
                    clear hbt0
                    have hrun : ∀ R, SR (symF cs S) (bitsF cs lg) (baseF cs lg) r L' x0 x1 out R → EncR l R := fun R h => by
                      have h2 := HQA.out (by first | rfl | trivial) R h
                      exact .run HR0.out (by rw [HX.out, HLG.out]) HS2.out (by rw [HSZ.out, HR.out]) HNE.out HLAST.out (by rintro ⟨i2, h3, h4⟩; rw [HS2.out] at h3; exact HLO.out i2 h3 h4) HL.out HLONG.out (by rw [← HQ1.out, ← HQ2.out]; exact h2)
                    have HRUN := Lib.hid hrun
                    clear hrun
                    by_cases hL0 : 0 < L'
                    · go_wp2_with fail
                      go_ret2
                      refine ⟨.open_, HRUN.out _ (.over (by have := HFULL.out; omega) (by rw [HBT.out]; have := HLE.out; omega) hL0), HEf.out.2.2.2.2.2.2.1, _, rfl⟩
                    · obtain rfl : L' = 0 := by omega
                      by_cases hm5 : 255 < m + 2
                      · have hdm : decide ((255 : Int) < (m : Int) + 2) = true := decide_eq_true (by omega)
                        have HM5 := Lib.hid hm5
                        clear hm5
                        go_wp2_with fail
                        go_ret2
                        exact ⟨.refused, HRUN.out _ (.long (by have := HFULL.out; omega) (by rw [HBT.out]; exact HBT0.out) (by rw [HM1.out]; exact HM5.out)), HEf.out.2.2.2.2.2.2.1, rfl⟩
                      · have hdm : decide ((255 : Int) < (m : Int) + 2) = false := decide_eq_false (by omega)
                        have HM5 := Lib.hid hm5
                        clear hm5
                        go_wp2_with fail
                        go_ret2
                        refine ⟨.good (out ++ [((symF cs S x0 : Nat) : Int), ((symF cs S x1 : Nat) : Int)]), HRUN.out _ (.end_ (by have := HFULL.out; omega) (by rw [HBT.out]; exact HBT0.out) (by rw [HM1.out]; have := HM5.out; omega)), HEf.out.2.2.2.2.2.2.1, _, rfl, ?_⟩
                        rw [HSY.out, HSY2.out]
                        have h := HEf.out.2.2.2.2.1
                        rw [List.append_assoc] at h
                        exact World.ownsRow.mono h (by have := HD3.out; omega)
            · have hab : x1 < S := hx1
              have ra : wr.cell? ⟨w5.heap.size, 1, none⟩ = some (.int .i64 (x1 : Nat)) := cell_of_row wr _ 1 _ _ (0, 0) HE.out.1
              have fa : wr.frozen? ⟨w5.heap.size, 1, none⟩ = false := frozen_of_row wr _ 1 _ _ HE.out.1
              have rb : wr.cell? ⟨w5.heap.size, 0, none⟩ = some (.int .i64 (x0 : Nat)) := cell_of_row wr _ 0 _ _ (0, 0) HE.out.1
              have rt : wr.cell? ⟨w3.heap.size + 1, 1, none⟩ = some (.slice (some ⟨T, 0, none⟩) S S) := cell_of_row wr _ 1 _ _ (0, 0) HE.out.2.2.1
              obtain ⟨sy, hsy⟩ : ∃ sy, symF cs S x1 = sy := ⟨_, rfl⟩
              have rs : wr.cell? ⟨T, x1 * 3, none⟩ = some (.int .i64 (sy : Nat)) := HE.out.2.2.2.1.cellv _ (by omega) _ (by rw [(stV_at _ _ _ x1).1, hsy])
              by_cases hfull : 255 < out.length
              · have hd1 : decide ((m : Int) ≤ 255) = false := decide_eq_false (by have := HM1.out; omega)
                have HFULL := Lib.hid hfull
                clear hfull
                go_wp2_with fail
                go_ret2
                refine ⟨.refused, .run HR0.out (by rw [HX.out, HLG.out]) HS2.out (by rw [HSZ.out, HR.out]) HNE.out HLAST.out (by rintro ⟨i2, h3, h4⟩; rw [HS2.out] at h3; exact HLO.out i2 h3 h4) HL.out HLONG.out (by rw [← HQ1.out, ← HQ2.out]; exact HQB.out (by first | rfl | trivial) _ (.full HFULL.out)), HE.out.2.2.2.2.2.2.1, rfl⟩
              · have hd1 : decide ((m : Int) ≤ 255) = true := decide_eq_true (by have := HM1.out; omega)
                have HSY := Lib.hid hsy
                have HFULL := Lib.hid hfull
                clear hsy hfull
                go_wp2_with fail
                refine wp_region_tail0 8 (by kernel_rfl) (by kernel_rfl) (.tmp 11) rfl rfl (fun _ _ _ _ h => h) ?_
                simp only [List.take_succ_cons, List.take_zero, List.drop_succ_cons, List.drop_zero]
                simp [Act.put, Act.eval]
                repeat (go_big_quiet_step (fail))
                refine wpQuiet_nil ?_
                have hEd := HE.out.drewN 1
                obtain ⟨wd, hwd⟩ : ∃ wd, wr.drewN 1 = wd := ⟨_, rfl⟩
                rw [hwd] at hEd
                rw [hwd]
                have HEd := Lib.hid hEd
                have HE2 := Lib.hid (hEd.alloc HD3.out (.cells #[.int .i64 (sy : Nat)] 3))
                have hc2 : Hid ((wd.alloc (.cells #[.int .i64 (sy : Nat)] 3)).cell? ⟨wd.heap.size, 0, none⟩ = some (.int .i64 (sy : Nat))) := Lib.hid (cell_of_row _ _ 0 _ _ (0, 0) (heap_alloc_new _ _))
                clear hEd hwd ra fa rb rt rs
                go_step
                go_step
                go_step
                refine wpList_append_i2 _ rfl (.tmp 62) (.tmp 71) rfl w3.heap.size (.slice A' m c') out rfl HE2.out.2.2.2.2.1 wd.heap.size rfl (sy : Nat) hc2.out (by have := HOLB.out; omega) (by have := HEd.out.2.2.2.2.2.2.2; have := HD3.out; simp; omega) ?_
                intro v4 w8 ho8 hg8 hv8
                have hE8 := HE2.out.app HD3.out ho8 hg8 hv8
                have HE8 := Lib.hid hE8
                clear ho8 hg8 hv8 hE8
                have ra : w8.cell? ⟨w5.heap.size, 1, none⟩ = some (.int .i64 (x1 : Nat)) := cell_of_row w8 _ 1 _ _ (0, 0) HE8.out.1
                have fa : w8.frozen? ⟨w5.heap.size, 1, none⟩ = false := frozen_of_row w8 _ 1 _ _ HE8.out.1
                have rt0 : w8.cell? ⟨w3.heap.size + 1, 0, none⟩ = some (.int .i64 (lg : Nat)) := cell_of_row w8 _ 0 _ _ (0, 0) HE8.out.2.2.1
                have rt : w8.cell? ⟨w3.heap.size + 1, 1, none⟩ = some (.slice (some ⟨T, 0, none⟩) S S) := cell_of_row w8 _ 1 _ _ (0, 0) HE8.out.2.2.1
                have rl : w8.cell? ⟨w1.heap.size, 1, none⟩ = some (.int .i64 (L' : Nat)) := cell_of_row w8 _ 1 _ _ (0, 0) HE8.out.2.1
                obtain ⟨bt, hbt⟩ : ∃ bt, bitsF cs lg x1 = bt := ⟨_, rfl⟩
                obtain ⟨bs, hbs⟩ : ∃ bs, baseF cs lg x1 = bs := ⟨_, rfl⟩
                have hnl := next_lt cs lg S x1 0 HLGS.out HVAL.out.1 HSUM.out HVAL.out.2.2.1 hab (Nat.two_pow_pos _)
                have hst := stV_at (symF cs S) (bitsF cs lg) (baseF cs lg) x1
                rw [hbt, hbs] at hnl
                rw [HSY.out, hbt, hbs] at hst
                have hRT8 := HE8.out.2.2.2.1
                have HKA := Lib.hid (fun q => table_after (w := w8.drewN q) (T := T) (o := 0) (ns := S) (cs := S) (B := w.heap.size) (HSLW.out.below (below_drewN HE8.out.2.2.2.2.2.2.1 q)) (by have := HN.out; omega) lg x1 (L' : Nat) sy bt bs hab (by have := HL'.out; omega) (by have := HLGS.out; omega) HWN.out (by have := HLGS.out; omega)
                  (hRT8.cellv _ (by omega) _ (by rw [Nat.zero_add]; exact hst.1)) (hRT8.cellv _ (by omega) _ (by rw [Nat.zero_add]; exact hst.2.1)) (hRT8.cellv _ (by omega) _ (by rw [Nat.zero_add]; exact hst.2.2)) HE8.out.2.1 (by have := HE8.out.2.2.2.2.2.2.2; have := HD3.out; show w1.heap.size < w8.heap.size; omega))
                have HBT := Lib.hid hbt
                have HBS := Lib.hid hbs
                have HNL2 := Lib.hid hnl
                have hsx : (x1 : Int) < (S : Int) := by omega
                clear hst hRT8 hbt hbs hnl
                go_upto_region 21 with (fail)
                go_region_with (go_at_call 41; refine (HKA.out _).mono ?_; rintro en w9 ⟨rfl, hr9, hb9, hk9⟩; have HE9 := Lib.hid ((HE8.out.drewN _).read HD3.out HTB.out hr9 hb9 hk9); have ra9 : w9.cell? ⟨w5.heap.size, 1, none⟩ = some (.int .i64 (x1 : Nat)) := cell_of_row w9 _ 1 _ _ (0, 0) HE9.out.1; have fa9 : w9.frozen? ⟨w5.heap.size, 1, none⟩ = false := frozen_of_row w9 _ 1 _ _ HE9.out.1; clear hr9 hb9 hk9)
                all_goals
                  by_cases hle : bt ≤ L'
                  · have hd22 : decide ((L' : Int) - (bt : Int) < 0) = false := decide_eq_false (by omega)
                    have rl9 : w9.cell? ⟨w1.heap.size, 1, none⟩ = some (.int .i64 ((L' : Int) - (bt : Int))) := cell_of_row w9 _ 1 _ _ (0, 0) HE9.out.2.1
                    have hne1 : ¬ w5.heap.size = w1.heap.size := by have := HD3.out; omega
                    go_wp2_with fail
                    have hN : numB r (L' : Int) bt = numF r (L' - bt) bt := numB_eq r L' bt hle
                    have hNl := next_lt cs lg S x1 (numF r (L' - bt) bt) HLGS.out HVAL.out.1 HSUM.out HVAL.out.2.2.1 hab (by rw [HBT.out]; exact numF_lt _ _ _)
                    rw [HBS.out] at hNl
                    have hE10 := HE9.out.set1 HD3.out (bs + numF r (L' - bt) bt)
                    have hlen : (out ++ [(sy : Int)]).length = m + 1 := by rw [List.length_append, HM1.out]; rfl
                    obtain ⟨A9, c9, hv9, _, _⟩ := HE8.out.2.2.2.2.1.len
                    refine ⟨⟨x0, bs + numF r (L' - bt) bt, L' - bt, 0, out ++ [(sy : Int)], .inl rfl, rfl, ?_, hx0, hNl.1, by have := HL'.out; omega, by rw [hlen]; have := HM1.out; have := HFULL.out; omega, (fun _ R h => HQB.out (by first | rfl | trivial) R (.next (by have := HFULL.out; omega) (by rw [HBT.out]; exact hle) (by rw [HBT.out, HBS.out, HSY.out]; exact h))), (fun h => by cases h)⟩, ?_⟩
                    · rw [hN, show (bs : Int) + ((numF r (L' - bt) bt : Nat) : Int) = ((bs + numF r (L' - bt) bt : Nat) : Int) by omega]
                      rw [show (L' : Int) - ((bt : Nat) : Int) = ((L' - bt : Nat) : Int) by omega] at hE10
                      exact hE10
                    · rw [hv9, hlen]
                      show 257 - (m + 1) < 257 - m
                      have := HM1.out; have := HFULL.out; omega
                  · have hd22 : decide ((L' : Int) - (bt : Int) < 0) = true := decide_eq_true (by omega)
                    have rl9 : w9.cell? ⟨w1.heap.size, 1, none⟩ = some (.int .i64 ((L' : Int) - (bt : Int))) := cell_of_row w9 _ 1 _ _ (0, 0) HE9.out.2.1
                    have hne1 : ¬ w5.heap.size = w1.heap.size := by have := HD3.out; omega
                    have HE10 := Lib.hid (HE9.out.set1 HD3.out (bs + numB r (L' : Int) bt))
                    have hcast : (bs : Int) + ((numB r (L' : Int) bt : Nat) : Int) = ((bs + numB r (L' : Int) bt : Nat) : Int) := by omega
                    obtain ⟨N, hN⟩ : ∃ N, bs + numB r (L' : Int) bt = N := ⟨_, rfl⟩
                    rw [hN] at HE10 hcast
                    rw [hcast]
                    have HLE := Lib.hid hle
                    clear hle hcast hN
                    go_upto_if 89 with (fail)
                    clear ra fa rt0 rt rl ra9 fa9 rl9
                    obtain ⟨wz, hwz⟩ : ∃ wz, w9.setCell ⟨w5.heap.size, 1, none⟩ (.int .i64 (N : Nat)) = wz := ⟨_, rfl⟩
                    have HEz : Hid (EncSt w w1.heap.size w3.heap.size w5.heap.size T lg S cs A4 (n - sz) (c - sz) x0 N ((L' : Int) - (bt : Nat)) v4 (out ++ [(sy : Int)]) wz) := by rw [← hwz]; exact HE10
                    rw [hwz]
                    clear hwz
                    obtain ⟨sy2, hsy2⟩ : ∃ sy2, symF cs S x0 = sy2 := ⟨_, rfl⟩
                    have rbz : wz.cell? ⟨w5.heap.size, 0, none⟩ = some (.int .i64 (x0 : Nat)) := cell_of_row wz _ 0 _ _ (0, 0) HEz.out.1
                    have rtz : wz.cell? ⟨w3.heap.size + 1, 1, none⟩ = some (.slice (some ⟨T, 0, none⟩) S S) := cell_of_row wz _ 1 _ _ (0, 0) HEz.out.2.2.1
                    have rsz : wz.cell? ⟨T, x0 * 3, none⟩ = some (.int .i64 (sy2 : Nat)) := HEz.out.2.2.2.1.cellv _ (by omega) _ (by rw [(stV_at _ _ _ x0).1, hsy2])
                    have HSY2 := Lib.hid hsy2
                    have hsx2 : (x0 : Int) < (S : Int) := by omega
                    clear hsy2
                    go_wp2_with fail
                    refine wp_region_tail0 9 (by kernel_rfl) (by kernel_rfl) (.tmp 11) rfl rfl (fun _ _ _ _ h => h) ?_
                    simp only [List.take_succ_cons, List.take_zero, List.drop_succ_cons, List.drop_zero]
                    simp [Act.put, Act.eval]
                    repeat (go_big_quiet_step (fail))
                    refine wpQuiet_nil ?_
                    have hEd2 := HEz.out.drewN 1
                    obtain ⟨we, hwe⟩ : ∃ we, wz.drewN 1 = we := ⟨_, rfl⟩
                    rw [hwe] at hEd2
                    rw [hwe]
                    have HEd2 := Lib.hid hEd2
                    have HE3 := Lib.hid (hEd2.alloc HD3.out (.cells #[.int .i64 (sy2 : Nat)] 3))
                    have hc3 : Hid ((we.alloc (.cells #[.int .i64 (sy2 : Nat)] 3)).cell? ⟨we.heap.size, 0, none⟩ = some (.int .i64 (sy2 : Nat))) := Lib.hid (cell_of_row _ _ 0 _ _ (0, 0) (heap_alloc_new _ _))
                    clear hEd2 hwe rbz rtz rsz
                    go_step
                    go_step
                    go_step
                    refine wpList_append_i2 _ rfl (.tmp 90) (.tmp 100) rfl w3.heap.size v4 (out ++ [(sy : Int)]) rfl HE3.out.2.2.2.2.1 we.heap.size rfl (sy2 : Nat) hc3.out (by rw [List.length_append]; have := HOLB.out; simp; omega) (by have := HEd2.out.2.2.2.2.2.2.2; have := HD3.out; simp; omega) ?_
                    intro v5 wf hof hgf hvf
                    have hEf := HE3.out.app HD3.out hof hgf hvf
                    obtain ⟨A5, c5, hv5, hc51, hc52⟩ := hof.len
                    rw [show (out ++ [(sy : Int)] ++ [(sy2 : Int)]).length = m + 2 by simp [HM1.out]] at hv5
                    subst hv5
                    have HEf := Lib.hid hEf
                    clear hof hgf hvf hEf hc51 hc52
                    have hbt0 : 0 < bt := by have := HLE.out; omega
                    have HBT0 := Lib.hid hbt0
                    clear hbt0
                    have hrun : ∀ R, SR (symF cs S) (bitsF cs lg) (baseF cs lg) r L' x1 x0 out R → EncR l R := fun R h => by
                      have h2 := HQB.out (by first | rfl | trivial) R h
                      exact .run HR0.out (by rw [HX.out, HLG.out]) HS2.out (by rw [HSZ.out, HR.out]) HNE.out HLAST.out (by rintro ⟨i2, h3, h4⟩; rw [HS2.out] at h3; exact HLO.out i2 h3 h4) HL.out HLONG.out (by rw [← HQ1.out, ← HQ2.out]; exact h2)
                    have HRUN := Lib.hid hrun
                    clear hrun
                    by_cases hL0 : 0 < L'
                    · go_wp2_with fail
                      go_ret2
                      refine ⟨.open_, HRUN.out _ (.over (by have := HFULL.out; omega) (by rw [HBT.out]; have := HLE.out; omega) hL0), HEf.out.2.2.2.2.2.2.1, _, rfl⟩
                    · obtain rfl : L' = 0 := by omega
                      by_cases hm5 : 255 < m + 2
                      · have hdm : decide ((255 : Int) < (m : Int) + 2) = true := decide_eq_true (by omega)
                        have HM5 := Lib.hid hm5
                        clear hm5
                        go_wp2_with fail
                        go_ret2
                        exact ⟨.refused, HRUN.out _ (.long (by have := HFULL.out; omega) (by rw [HBT.out]; exact HBT0.out) (by rw [HM1.out]; exact HM5.out)), HEf.out.2.2.2.2.2.2.1, rfl⟩
                      · have hdm : decide ((255 : Int) < (m : Int) + 2) = false := decide_eq_false (by omega)
                        have HM5 := Lib.hid hm5
                        clear hm5
                        go_wp2_with fail
                        go_ret2
                        refine ⟨.good (out ++ [((symF cs S x1 : Nat) : Int), ((symF cs S x0 : Nat) : Int)]), HRUN.out _ (.end_ (by have := HFULL.out; omega) (by rw [HBT.out]; exact HBT0.out) (by rw [HM1.out]; have := HM5.out; omega)), HEf.out.2.2.2.2.2.2.1, _, rfl, ?_⟩
                        rw [HSY.out, HSY2.out]
                        have h := HEf.out.2.2.2.2.1
                        rw [List.append_assoc] at h
                        exact World.ownsRow.mono h (by have := HD3.out; omega)
        · have hd : decide ((L : Int) - (lg : Nat) - (lg : Nat) < 0) = true := decide_eq_true (by omega)
          have HLONG := Lib.hid hlong
          clear hlong
          go_wp2_with fail
          go_ret2
          exact ⟨.open_, .short HR0.out (by rw [HSZ.out, HR.out, HL.out, HX.out, HLG.out]; have := HLONG.out; omega), (HB60.out.trans (HB7.out.mono HWN.out)).setCell (by have := HZ5.out; have := HS3.out; simp; omega) _, _, rfl⟩
end Go.Proofs.YthkklojjpgjiiaaFmt
