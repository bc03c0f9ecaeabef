/-
  huff0.ReadTable: the whole. Conditions: those of each.
  impl.HuffTable. Conditions: those of the theorem.
  laws.FnHuffTable: it returns true and keeps what there was. Conditions: the sentinel io.ErrUnexpectedEOF stands as laid.
-/
import Derived.Test.YthkklojjpgjiiaaFmtHuffT23
import Derived.Test.YthkklojjpgjiiaaFmtHuffT51
import Derived.Test.YthkklojjpgjiiaaFmtHuffT49
import Derived.Test.YthkklojjpgjiiaaFmtHuffT05
namespace Go.Proofs.YthkklojjpgjiiaaFmt
open Go.RowKit Go.Extern.Stop Go.Stop Go.Extern

/-- what ReadTable hands back -/
def RtPost (d : List UInt8) (e : Ending) : Prop :=
  (∃ p A' n' c', e = .returned (.tuple #[p, .slice A' n' c', .nilIface]) ∧ ∀ R size, WtR d R size → clsR R = 2 ∨ (clsR R = 0 ∧ size + n' = d.length)) ∨
  (∃ p T v, (T = 107 ∨ T = 138) ∧ e = .returned (.tuple #[p, .slice none 0 0, .iface T v]) ∧ ∀ R size, WtR d R size → clsR R ≠ 0)
theorem WtR.big {d : List UInt8} {R : WRes} {size m : Nat} (h : WtR d R size) (hd : d ≠ []) (hm : headB d = m + 127) (hm1 : 1 ≤ m) : (1 + (m + 1) / 2 ≤ d.length ∧ R = .good (halfs d m) ∧ size = 1 + (m + 1) / 2) ∨ (d.length < 1 + (m + 1) / 2 ∧ R = .refused) := by
  cases h with
  | empty h => exact absurd h hd
  | @half m2 h h1 h0 h2 =>
    have e : m2 = m := by omega
    subst e
    exact .inl ⟨h2, rfl, rfl⟩
  | @cut m2 h h1 h0 h2 =>
    have e : m2 = m := by omega
    subst e
    exact .inr ⟨h2, rfl⟩
  | short hd h1 h0 h2 => omega
  | enc hd h1 h0 h2 hr => omega
theorem WtR.small {d : List UInt8} {R : WRes} {size hb : Nat} (h : WtR d R size) (hd : d ≠ []) (hm : headB d = hb) (hm1 : hb < 128) : (d.length < 1 + hb ∧ R = .refused) ∨ (1 + hb ≤ d.length ∧ EncR ((d.take (1 + hb)).drop 1) R ∧ size = 1 + hb) := by
  cases h with
  | empty h => exact absurd h hd
  | half h h1 h0 h2 => omega
  | cut h h1 h0 h2 => omega
  | @short h2' hd h1 h0 h2 =>
    have e : h2' = hb := by omega
    subst e
    exact .inl ⟨h2, rfl⟩
  | @enc h2' R hd h1 h0 h2 hr =>
    have e : h2' = hb := by omega
    subst e
    exact .inr ⟨h2, hr, rfl⟩
theorem WtR.one {d : List UInt8} {R : WRes} {size : Nat} (h : WtR d R size) (hd : d.length ≤ 1) : clsR R ≠ 0 := by
  by_cases h0 : d = []
  · cases h with
    | empty h => decide
    | half h => exact absurd h0 h
    | cut h => exact absurd h0 h
    | short h => exact absurd h0 h
    | enc h => exact absurd h0 h
  · by_cases hb : headB d < 128
    · rcases h.small h0 rfl hb with ⟨_, e⟩ | ⟨h1, h2, _⟩
      · rw [e]; decide
      · have hz : headB d = 0 := by omega
        have := h2.early fun R' hR' => .inl (by
          rcases hR' with ⟨_, e⟩ | ⟨h3, _⟩
          · exact e
          · exfalso
            apply h3
            rw [hz, List.drop_take]
            simp)
        rcases this with e | e <;> rw [e] <;> decide
    · have h1 : headB d < 256 := headB_lt d
      rcases h.big (m := headB d - 127) h0 (by omega) (by omega) with ⟨h2, _⟩ | ⟨_, e⟩
      · omega
      · rw [e]; decide
theorem halfs_wv (d : List UInt8) (m k : Nat) (hk : k < m) : wvF (halfs d m) k = nib d k := by
  unfold wvF halfs
  rw [List.getD_eq_getElem?_getD, List.getElem?_map, List.getElem?_range hk]
  rfl
theorem nib_lt (d : List UInt8) (i : Nat) : nib d i < 16 := by
  have h := UInt8.toNat_lt (d.getD (1 + i / 2) 0)
  unfold nib
  split <;> omega
set_option maxRecDepth 100000 in
set_option maxHeartbeats 6400000 in
theorem readTable_any (F : Interp) {w : World} (hF : F.answers w.tape) {n c : Nat} {A : Option Addr} {d : List UInt8} (hs : Sl w w.heap.size A n c d) (hn : n ≤ 50000) (hEof : EofB w w.heap.size) :
    Calls Tryf.prog 16 #[.slice A n c, .pointer none] w fun e w9 => RtPost d e ∧ Below w.heap.size w w9 := by
  have hnl := hs.len
  have KP := Lib.hid (hufPrep_any w)
  obtain ⟨H, hH⟩ : ∃ H, w.heap.size = H := ⟨_, rfl⟩
  unfold HufPost at KP
  rw [hH] at KP hs hEof
  have HF := Lib.hid hF
  have HS := Lib.hid hs
  have HEOF := Lib.hid hEof
  have HHH := Lib.hid hH
  clear hF hs hEof hH
  go_enter Tryf.func16, Tryf.ntmps16
  go_wp2_with fail
  refine KP.out.mono ?_
  rintro e w1 ⟨D, f, rfl, hHD, hh, h278, hD, hb, hfk⟩
  have hbad : ∀ F' w', RtBad H F' → Bl w H w' → (∀ R size, WtR d R size → clsR R ≠ 0) → bodyPost Tryf.prog Tryf.f16 (fun e w9 => RtPost d e ∧ Below w.heap.size w w9) .ret F' w' := by
    rintro F' w' ⟨T, v, hT, hE⟩ hbl hR
    rw [rtE_frame hE]
    go_ret3
    exact ⟨.inr ⟨_, T, v, hT, rfl, hR⟩, by rw [HHH.out]; exact hbl.2⟩
  have hgood : ∀ F' w' A' n' c', RtE (.pointer (some ⟨H, 0, none⟩)) (.slice A' n' c') .nilIface F' → Bl w H w' → (∀ R size, WtR d R size → clsR R = 2 ∨ (clsR R = 0 ∧ size + n' = d.length)) → bodyPost Tryf.prog Tryf.f16 (fun e w9 => RtPost d e ∧ Below w.heap.size w w9) .ret F' w' := by
    rintro F' w' A' n' c' hE hbl hR
    rw [rtE_frame hE]
    go_ret3
    exact ⟨.inl ⟨_, A', n', c', rfl, hR⟩, by rw [HHH.out]; exact hbl.2⟩
  have hS1 : Sl w1 H A n c d := HS.out.below hb
  have HBAD := Lib.hid hbad
  have HGOOD := Lib.hid hgood
  have HH := Lib.hid hh
  have HD := Lib.hid hD
  have H278 := Lib.hid h278
  have HB := Lib.hid hb
  have HFK := Lib.hid hfk
  have hnc : n ≤ c := hS1.cap
  have hHl := hh.lt
  clear hbad hgood hh hD h278 hb hfk
  by_cases h1 : n ≤ 1
  · have hdec : decide ((n : Int) ≤ 1) = true := decide_eq_true (by omega)
    clear hS1
    go_wp2_with fail
    refine (errorsNew_any _ _).mono ?_
    rintro e w2 he
    obtain ⟨⟨b, s, rfl, _⟩, honE⟩ := errE_of he
    have HOE := Lib.hid honE
    clear he honE
    go_wp2_with fail
    go_ret3
    exact ⟨.inr ⟨_, _, _, .inl rfl, rfl, fun R size h => h.one (by omega)⟩, by rw [HHH.out]; exact HB.out.trans (HOE.out.below H (fun _ _ h => h) (by omega))⟩
  · have hdec : decide ((n : Int) ≤ 1) = false := decide_eq_false (by omega)
    obtain ⟨g, o, hA, hgH, hcl⟩ := hS1.at_ (by omega)
    subst hA
    have hs2 := hS1.next 1 (by omega)
    have hc1 : (if c = 1 then (some ⟨g, o, none⟩ : Option Addr) else some ⟨g, o + 1, none⟩) = some ⟨g, o + 1, none⟩ := if_neg (by omega)
    rw [hc1] at hs2
    obtain ⟨hb, hhb⟩ : ∃ hb, headB d = hb := ⟨_, rfl⟩
    have hbb : hb < 256 := by rw [← hhb]; exact headB_lt d
    have k0 : w1.cell? ⟨g, o, none⟩ = some (.int .u8 (hb : Nat)) := by
      have h2 := hcl 0 (by omega)
      rw [Nat.add_zero] at h2
      rw [h2, ← hhb]
      unfold headB
      rw [List.getD_eq_getElem?_getD, List.getElem?_eq_getElem (by omega)]
      rfl
    have hd0 : d ≠ [] := fun e => by rw [e] at hnl; simp at hnl; omega
    have hnpos : (0 : Int) < (n : Int) := by omega
    have hn1i : (1 : Int) ≤ (n : Int) := by omega
    obtain ⟨n1, hn1⟩ : ∃ q, n - 1 = q := ⟨_, rfl⟩
    obtain ⟨c1, hc1e⟩ : ∃ q, c - 1 = q := ⟨_, rfl⟩
    rw [hn1, hc1e] at hs2
    have hcell : ∀ j, j < n1 → w1.cell? ⟨g, o + 1 + j, none⟩ = some (.int .u8 ((d.getD (1 + j) 0).toNat : Nat)) := fun j hj => by
      have h2 := hcl (1 + j) (by omega)
      rw [show o + 1 + j = o + (1 + j) by omega, h2, List.getD_eq_getElem?_getD, List.getElem?_eq_getElem (by omega)]
      rfl
    have HN1 := Lib.hid hn1
    have HC1 := Lib.hid hc1e
    have HS2 := Lib.hid hs2
    have HCELL := Lib.hid hcell
    have HHB := Lib.hid hhb
    clear hS1 hs2 hcl hcell hhb
    have HNL := Lib.hid hnl
    have HNC := Lib.hid hnc
    clear hnl hnc
    by_cases hbig : 128 ≤ hb
    · have hd2 : decide ((128 : Int) ≤ (hb : Int)) = true := decide_eq_true (by omega)
      go_upto_if 62 with fail
      rename_i K1 K1Q
      have HK1 := Lib.hid K1Q
      clear K1Q
      go_step
      have hnl := HNL.out
      have hnc := HNC.out
      have e1 : n - 1 = n1 := HN1.out
      have e2 : c - 1 = c1 := HC1.out
      obtain ⟨m, hm⟩ : ∃ m, hb = m + 127 := ⟨hb - 127, by omega⟩
      refine rt_half (m := m) (d := d) (n := n1) (c := c1) (gi := g) (oi := o + 1) (hb := hb) HH.out ⟨by rw [HHH.out]; exact Nat.le_refl _, HB.out⟩ (Nat.le_refl _) (show g ≠ H by omega) (by omega) HCELL.out hm (by omega) (by omega) (by omega) (by omega) (by omega) _ _ _ _ _ _ _ _ _ _ _ _ _ _ _ _ _ _ _ _ _ _ _ _ _ _ _ _ _ _ _ _ _ _ _ _ _ _ _ _ _ _ _ _ _ _ _ _ _ _ _ _ _ _ _ _ _ _ _ _ _ _ _ _ _ _ _ _ _ _ _ _ _ _ _ _ _ _ _ _ _ _ _ _ _ _ _ _ _ _ _ _ _ _ _ _ _ _ _ _ _ _ _ _ _ _ _ _ _ _ _ _ _ _ _ _ _ _ _ _ _ _ _ _ _ _ _ _ _ _ _ _ _ _ _ _ _ _ _ _ _ _ _ _ _ _ _ _ _ _ _ _ _ _ _ _ _ _ _ _ _ _ _ _ _ _ _ _ _ _ _ _ _ _ _ _ _ _ _ _ _ _ _ _ _ _ _ _ _ _ _ _ _ _ _ _ _ _ _ _ _ _ _ _ _ _ _ _ _ _ _ _ _ _ _ _ _ _ _ _ _ _ _ _ _ _ _ _ _ _ _ _ _ _ _ _ _ _ _ _ _ _ _ _ _ _ _ _ _ _ _ _ _ _ _ _ _ _ _ _ _ _ _ _ _ _ _ _ _ _ _ _ _ _ _ _ _ _ _ _ _ _ _ _ _ _ _ _ _ _ _ _ _ _ _ _ _ _ _ _ _ _ _ _ _ _ _ _ _ _ _ _ _ _ _ _ _ _ _ _ _ _ _ _ _ _ _ _ _ _ _ _ _ _ _ _ _ _ _ _ _ _ _ _ _ _ _ _ _ _ _ _ _ _ _ _ _ _ _ _ _ _ _ _ _ _ _ _ _ _ _ _ _ _ _ _ _ _ _ _ _ _ _ _ _ _ _ _ _ _ _ _ _ _ _ _ _ _ _ _ _ _ _ _ _ _ _ _ _ _ _ _ _ _ _ _ _ _ _ _ _ _ _ _ _ _ _ _ _ _ _ _ _ _ _ _ _ _ _ _ _ _ _ _ _ _ _ _ _ _ _ _ _ _ _ _ _ _ _ _ _ _ _ _ _ _ _ _ _ _ _ _ _ _ _ _ _ _ _ _ _ _ _ _ _ _ _ _ _ _ _ _ _ _ _ _ _ _ _ _ _ _ _ _ _ _ _ _ _ _ _ _ _ _ _ _ _ _ _ _ _ _ _ _ _ _ _ _ _ _ _ _ _ _ _ _ _ _ _ _ _ _ _ _ _ _ _ _ _ _ _ _ _ _ _ _ _ _ _ _ _ _ ?_ ?_
      · intro hlt F' w' b hE hbl
        refine HBAD.out F' w' ⟨_, _, .inl rfl, hE⟩ hbl fun R size h => ?_
        rcases h.big hd0 (by rw [HHB.out]; exact hm) (by omega) with ⟨h2, _⟩ | ⟨_, e⟩
        · omega
        · rw [e]; decide
      · intro hlen F' w' A' c' f' hN hr h265 hnb hk hbl
        refine HK1.out _ _ ?_
        rw [rtN_frame hN]
        have hlink : ∀ R size, WtR d R size → R = .good (halfs d m) ∧ size = 1 + (m + 1) / 2 := fun R size h => by
          rcases h.big hd0 (by rw [HHB.out]; exact hm) (by omega) with ⟨_, e, e3⟩ | ⟨h2, _⟩
          · exact ⟨e, e3⟩
          · omega
        refine rt_s3 (ws := halfs d m) hr hbl (Nat.le_refl _) h265 (by rw [hk 272 (by omega) (by omega), HFK.out 272 (by omega) (.inr (by omega)) (by omega) (by omega)]; kernel_rfl) (by rw [hk 270 (by omega) (by omega), HFK.out 270 (by omega) (.inr (by omega)) (by omega) (by omega)]; kernel_rfl)
          (fun k hk2 => by rw [hnb k hk2, halfs_wv d m k hk2]) (fun k => ?_) (by omega) (fun x hx => ?_) (halfs_length d m) _ _ _ _ _ _ _ _ _ _ _ _ _ _ _ _ _ _ _ _ _ _ _ _ _ _ _ _ _ _ _ _ _ _ _ _ _ _ _ _ _ _ _ _ _ _ _ _ _ _ _ _ _ _ _ _ _ _ _ _ _ _ _ _ _ _ _ _ _ _ _ _ _ _ _ _ _ _ _ _ _ _ _ _ _ _ _ _ _ _ _ _ _ _ _ _ _ _ _ _ _ _ _ _ _ _ _ _ _ _ _ _ _ _ _ _ _ _ _ _ _ _ _ _ _ _ _ _ _ _ _ _ _ _ _ _ _ _ _ _ _ _ _ _ _ _ _ _ _ _ _ _ _ _ _ _ _ _ _ _ _ _ _ _ _ _ _ _ _ _ _ _ _ _ _ _ _ _ _ _ _ _ _ _ _ _ _ _ _ _ _ _ _ _ _ _ _ _ _ _ _ _ _ _ _ _ _ _ _ _ _ _ _ _ _ _ _ _ _ _ _ _ _ _ _ _ _ _ _ _ _ _ _ _ _ _ _ _ _ _ _ _ _ _ _ _ _ _ _ _ _ _ _ _ _ _ _ _ _ _ _ _ _ _ _ _ _ _ _ _ _ _ _ _ _ _ _ _ _ _ _ _ _ _ _ _ _ _ _ _ _ _ _ _ _ _ _ _ _ _ _ _ _ _ _ _ _ _ _ _ _ _ _ _ _ _ _ _ _ _ _ _ _ _ _ _ _ _ _ _ _ _ _ _ _ _ _ _ _ _ _ _ _ _ _ _ _ _ _ _ _ _ _ _ _ _ _ _ _ _ _ _ _ _ _ _ _ _ _ _ _ _ _ _ _ _ _ _ _ _ _ _ _ _ _ _ _ _ _ _ _ _ _ _ _ _ _ _ _ _ _ _ _ _ _ _ _ _ _ _ _ _ _ _ _ _ _ _ _ _ _ _ _ _ _ _ _ _ _ _ _ _ _ _ _ _ _ _ _ _ _ _ _ _ _ _ _ _ _ _ _ _ _ _ _ _ _ _ _ _ _ _ _ _ _ _ _ _ _ _ _ _ _ _ _ _ _ _ _ _ _ _ _ _ _ _ _ _ _ _ _ _ _ _ _ _ _ _ _ _ _ _ _ _ _ _ _ _ _ _ _ _ _ _ _ _ _ _ _ _ _ _ _ _ _ _ _ _ _ _ _ _ _ _ _ _ _ _ _ _ _ _ _ _ _ _ _ _ _ _ _ _ _ _ _ _ _ _ _ _ _ _ _ (fun hcl F2 w2 b hE hbl2 => ?_) (fun hcl F2 w2 hE hbl2 => ?_)
        · by_cases hk2 : k < m
          · rw [halfs_wv d m k hk2]; have := nib_lt d k; omega
          · unfold wvF
            rw [List.getD_eq_getElem?_getD, List.getElem?_eq_none (by rw [halfs_length]; omega)]
            decide
        · obtain ⟨i, _, rfl⟩ := List.mem_map.1 hx
          omega
        · refine HBAD.out F2 w2 ⟨_, _, .inl rfl, hE⟩ hbl2 fun R size h => ?_
          rw [(hlink R size h).1]
          exact hcl
        · refine HGOOD.out F2 w2 _ _ _ hE hbl2 fun R size h => .inr ?_
          obtain ⟨h2, h3⟩ := hlink R size h
          rw [h2]
          exact ⟨hcl, by omega⟩
    · have hd2 : decide ((128 : Int) ≤ (hb : Int)) = false := decide_eq_false (by omega)
      have hon : Only (fun _ => False) w w1 := Only.of_below (by have h2 := HB.out; rw [← HHH.out] at h2; exact h2) (fun k hk _ => hk)
      have htape := hon.tape
      have hE1 : EofB w1 H := HEOF.out.keep hon (fun _ _ e => e)
      have HE1 := Lib.hid hE1
      have HTP := Lib.hid htape
      clear hon hE1 htape
      go_upto_if 62 with fail
      rename_i K1 K1Q
      have HK1 := Lib.hid K1Q
      clear K1Q
      go_step
      have hnl := HNL.out
      have hnc := HNC.out
      have e1 : n - 1 = n1 := HN1.out
      have e2 : c - 1 = c1 := HC1.out
      refine rt_fse F (D := D) (d := d) (by show F.answers w1.tape; rw [HTP.out]; exact HF.out) HH.out ⟨by rw [HHH.out]; exact Nat.le_refl _, HB.out⟩ (Nat.le_refl _) H278.out HD.out hHD HS2.out (by omega) (by omega) (by omega) (by omega) HE1.out _ _ _ _ _ _ _ _ _ _ _ _ _ _ _ _ _ _ _ _ _ _ _ _ _ _ _ _ _ _ _ _ _ _ _ _ _ _ _ _ _ _ _ _ _ _ _ _ _ _ _ _ _ _ _ _ _ _ _ _ _ _ _ _ _ _ _ _ _ _ _ _ _ _ _ _ _ _ _ _ _ _ _ _ _ _ _ _ _ _ _ _ _ _ _ _ _ _ _ _ _ _ _ _ _ _ _ _ _ _ _ _ _ _ _ _ _ _ _ _ _ _ _ _ _ _ _ _ _ _ _ _ _ _ _ _ _ _ _ _ _ _ _ _ _ _ _ _ _ _ _ _ _ _ _ _ _ _ _ _ _ _ _ _ _ _ _ _ _ _ _ _ _ _ _ _ _ _ _ _ _ _ _ _ _ _ _ _ _ _ _ _ _ _ _ _ _ _ _ _ _ _ _ _ _ _ _ _ _ _ _ _ _ _ _ _ _ _ _ _ _ _ _ _ _ _ _ _ _ _ _ _ _ _ _ _ _ _ _ _ _ _ _ _ _ _ _ _ _ _ _ _ _ _ _ _ _ _ _ _ _ _ _ _ _ _ _ _ _ _ _ _ _ _ _ _ _ _ _ _ _ _ _ _ _ _ _ _ _ _ _ _ _ _ _ _ _ _ _ _ _ _ _ _ _ _ _ _ _ _ _ _ _ _ _ _ _ _ _ _ _ _ _ _ _ _ _ _ _ _ _ _ _ _ _ _ _ _ _ _ _ _ _ _ _ _ _ _ _ _ _ _ _ _ _ _ _ _ _ _ _ _ _ _ _ _ _ _ _ _ _ _ _ _ _ _ _ _ _ _ _ _ _ _ _ _ _ _ _ _ _ _ _ _ _ _ _ _ _ _ _ _ _ _ _ _ _ _ _ _ _ _ _ _ _ _ _ _ _ _ _ _ _ _ _ _ _ _ _ _ _ _ _ _ _ _ _ _ _ _ _ _ _ _ _ _ _ _ _ _ _ _ _ _ _ _ _ _ _ _ _ _ _ _ _ _ _ _ _ _ _ _ _ _ _ _ _ _ _ _ _ _ _ _ _ _ _ _ _ _ _ _ _ _ _ _ _ _ _ _ _ _ _ _ _ _ _ _ _ _ _ _ _ _ _ _ _ _ _ _ _ _ _ _ _ _ _ _ _ _ _ _ _ _ _ _ _ _ _ _ _ _ _ _ _ _ _ _ _ _ _ _ _ _ _ _ _ _ _ _ _ _ ?_ ?_ ?_
      · intro hlt F' w' hE hbl
        refine HBAD.out F' w' hE hbl fun R size h => ?_
        rcases h.small hd0 HHB.out (by omega) with ⟨_, e⟩ | ⟨h2, _⟩
        · rw [e]; decide
        · omega
      · intro hlen hR F' w' hE hbl
        refine HBAD.out F' w' hE hbl fun R size h => ?_
        rcases h.small hd0 HHB.out (by omega) with ⟨_, e⟩ | ⟨_, h2, _⟩
        · rw [e]; decide
        · rcases hR R h2 with e | e <;> rw [e] <;> decide
      · intro out hlen hol hob hR F' w' A' c' f' hN hr h265 hnb hk hbl
        refine HK1.out _ _ ?_
        rw [rtN_frame hN]
        have hlink : ∀ R size, WtR d R size → (R = .good out ∨ R = .open_) ∧ size = 1 + hb := fun R size h => by
          rcases h.small hd0 HHB.out (by omega) with ⟨h2, _⟩ | ⟨_, h2, e3⟩
          · omega
          · exact ⟨hR R h2, e3⟩
        refine rt_s3 (ws := out) hr hbl (Nat.le_refl _) h265 (by rw [hk 272 (by omega) (by omega), HFK.out 272 (by omega) (.inr (by omega)) (by omega) (by omega)]; kernel_rfl) (by rw [hk 270 (by omega) (by omega), HFK.out 270 (by omega) (.inr (by omega)) (by omega) (by omega)]; kernel_rfl)
          (fun k hk2 => by rw [hnb k hk2, wv_get (fun x hx => (hob x hx).1) k]) (fun k => ?_) hol (fun x hx => (hob x hx).1) rfl _ _ _ _ _ _ _ _ _ _ _ _ _ _ _ _ _ _ _ _ _ _ _ _ _ _ _ _ _ _ _ _ _ _ _ _ _ _ _ _ _ _ _ _ _ _ _ _ _ _ _ _ _ _ _ _ _ _ _ _ _ _ _ _ _ _ _ _ _ _ _ _ _ _ _ _ _ _ _ _ _ _ _ _ _ _ _ _ _ _ _ _ _ _ _ _ _ _ _ _ _ _ _ _ _ _ _ _ _ _ _ _ _ _ _ _ _ _ _ _ _ _ _ _ _ _ _ _ _ _ _ _ _ _ _ _ _ _ _ _ _ _ _ _ _ _ _ _ _ _ _ _ _ _ _ _ _ _ _ _ _ _ _ _ _ _ _ _ _ _ _ _ _ _ _ _ _ _ _ _ _ _ _ _ _ _ _ _ _ _ _ _ _ _ _ _ _ _ _ _ _ _ _ _ _ _ _ _ _ _ _ _ _ _ _ _ _ _ _ _ _ _ _ _ _ _ _ _ _ _ _ _ _ _ _ _ _ _ _ _ _ _ _ _ _ _ _ _ _ _ _ _ _ _ _ _ _ _ _ _ _ _ _ _ _ _ _ _ _ _ _ _ _ _ _ _ _ _ _ _ _ _ _ _ _ _ _ _ _ _ _ _ _ _ _ _ _ _ _ _ _ _ _ _ _ _ _ _ _ _ _ _ _ _ _ _ _ _ _ _ _ _ _ _ _ _ _ _ _ _ _ _ _ _ _ _ _ _ _ _ _ _ _ _ _ _ _ _ _ _ _ _ _ _ _ _ _ _ _ _ _ _ _ _ _ _ _ _ _ _ _ _ _ _ _ _ _ _ _ _ _ _ _ _ _ _ _ _ _ _ _ _ _ _ _ _ _ _ _ _ _ _ _ _ _ _ _ _ _ _ _ _ _ _ _ _ _ _ _ _ _ _ _ _ _ _ _ _ _ _ _ _ _ _ _ _ _ _ _ _ _ _ _ _ _ _ _ _ _ _ _ _ _ _ _ _ _ _ _ _ _ _ _ _ _ _ _ _ _ _ _ _ _ _ _ _ _ _ _ _ _ _ _ _ _ _ _ _ _ _ _ _ _ _ _ _ _ _ _ _ _ _ _ _ _ _ _ _ _ _ _ _ _ _ _ _ _ _ _ _ _ _ _ _ _ _ _ _ _ _ _ _ _ _ _ _ _ _ _ _ _ _ _ _ _ _ _ _ _ _ _ _ _ _ _ _ _ _ _ _ _ _ _ (fun hcl F2 w2 b hE hbl2 => ?_) (fun hcl F2 w2 hE hbl2 => ?_)
        · unfold wvF
          rw [List.getD_eq_getElem?_getD]
          by_cases hk2 : k < out.length
          · rw [List.getElem?_eq_getElem hk2, Option.getD_some]
            have := hob _ (List.getElem_mem hk2)
            omega
          · rw [List.getElem?_eq_none (by omega)]
            decide
        · refine HBAD.out F2 w2 ⟨_, _, .inl rfl, hE⟩ hbl2 fun R size h => ?_
          rcases (hlink R size h).1 with e | e
          · rw [e]; exact hcl
          · rw [e]; decide
        · refine HGOOD.out F2 w2 _ _ _ hE hbl2 fun R size h => ?_
          obtain ⟨h2, h3⟩ := hlink R size h
          rcases h2 with e | e
          · right
            rw [e]
            exact ⟨hcl, by omega⟩
          · left
            rw [e]
            rfl
end Go.Proofs.YthkklojjpgjiiaaFmt
namespace Go.Proofs.YthkklojjpgjiiaaFmt
open Go.RowKit Go.Extern.Stop Go.Stop Go.Extern

theorem EofB.raise {w : World} {H H' : Nat} (h : EofB w H) (h1 : H ≤ H') (h2 : H' ≤ w.heap.size) : EofB w H' := by
  obtain ⟨_, hg, b, s, hb, e1, e2⟩ := h
  exact ⟨h2, by omega, b, s, by omega, e1, e2⟩
/-- what HuffTable hands back -/
def HtPost (d : List UInt8) (e : Ending) : Prop :=
  (∃ n' : Nat, e = .returned (.tuple #[.int .i64 (n' : Nat), .bool true]) ∧ ∀ R size, WtR d R size → clsR R = 2 ∨ (clsR R = 0 ∧ size + n' = d.length)) ∨
  (e = .returned (.tuple #[.int .i64 0, .bool false]) ∧ ∀ R size, WtR d R size → clsR R ≠ 0)
set_option maxRecDepth 100000 in
set_option maxHeartbeats 1600000 in
theorem huffTable_any (F : Interp) {w : World} (hF : F.answers w.tape) {B n c : Nat} {A : Option Addr} {d : List UInt8} (hs : Sl w B A n c d) (hB : B ≤ w.heap.size) (hn : n ≤ 50000) (hEof : EofB w w.heap.size) :
    Calls Tryf.prog 9 #[.slice A n c] w fun e w9 => HtPost d e ∧ Below w.heap.size w w9 := by
  have HO := Lib.hid (Own.lit w (base := w.heap.size) (Nat.le_refl _))
  have HS := Lib.hid (hs.alloc hB (.cells #[] 5))
  have HF := Lib.hid hF
  have HE := Lib.hid hEof
  clear hs hF hEof
  go_enter Tryf.func9, Tryf.ntmps9
  go_wp2_with (at_builtin; refine wpList_append_sl _ (by rfl) (.tmp 8) (.tmp 9) (by rfl) w.heap.size (.slice (some ⟨w.heap.size, 0, none⟩) 0 0) [] d (by rfl) HO.out B A n c (by rfl) HS.out (by simp; omega) (by simp) n d (by simp) (by simp) ?_; intro A2 c2 w2 happ; have HAPP := Lib.hid happ; clear happ)
  have hbel := (below_new w (.cells #[] 5)).trans HAPP.out.bel
  have hon : Only (fun _ => False) w w2 := Only.of_below hbel (fun k hk _ => hk)
  refine (readTable_any F (w := w2) (by rw [hon.tape]; exact HF.out) HAPP.out.sl hn ((HE.out.keep hon (fun _ _ e => e)).raise HAPP.out.le (Nat.le_refl _))).mono ?_
  rintro e w3 ⟨hp, hb3⟩
  have HBE := Lib.hid (hbel.trans (hb3.mono hbel.size))
  clear hbel hon HAPP hb3
  rcases hp with ⟨p, A', n', c', rfl, hR⟩ | ⟨p, T, v, hT, rfl, hR⟩
  · have HR := Lib.hid hR
    clear hR
    go_wp2_with fail
    go_ret2
    exact ⟨.inl ⟨n', rfl, HR.out⟩, HBE.out⟩
  · have HR := Lib.hid hR
    clear hR
    rcases hT with rfl | rfl
    · go_wp2_with fail
      go_ret2
      exact ⟨.inr ⟨rfl, HR.out⟩, HBE.out⟩
    · go_wp2_with fail
      go_ret2
      exact ⟨.inr ⟨rfl, HR.out⟩, HBE.out⟩
end Go.Proofs.YthkklojjpgjiiaaFmt
namespace Go.Proofs.YthkklojjpgjiiaaFmt
open Go.RowKit Go.Extern.Stop Go.Stop Go.Extern

set_option maxRecDepth 100000 in
set_option maxHeartbeats 1600000 in
theorem huffLaw_walk (F : Interp) {W : World} (hF : F.answers W.tape) {A : Option Addr} {n c : Nat} {d : List UInt8} (hs : Sl W W.heap.size A n c d) (hEof : EofB W W.heap.size) :
    Calls Tryf.prog 4 #[.slice A n c] W fun e w' => e = .returned (.bool true) ∧ Below W.heap.size W w' := by
  have hnl := hs.len
  have HF := Lib.hid hF
  have HS := Lib.hid hs
  have HEOF := Lib.hid hEof
  clear hF hs hEof
  by_cases h1 : (2147483647 : Int) < (n : Int)
  · have hd1 : decide ((2147483647 : Int) < (n : Int)) = true := decide_eq_true h1
    go_enter Tryf.func4, Tryf.ntmps4
    go_wp2_with fail
    go_ret
    exact ⟨rfl, Below.refl _ _⟩
  have hd1 : decide ((2147483647 : Int) < (n : Int)) = false := decide_eq_false h1
  by_cases h2 : (40000 : Int) < (n : Int)
  · have hd2 : decide ((40000 : Int) < (n : Int)) = true := decide_eq_true h2
    go_enter Tryf.func4, Tryf.ntmps4
    go_wp2_with fail
    go_ret
    exact ⟨rfl, Below.refl _ _⟩
  have hd2 : decide ((40000 : Int) < (n : Int)) = false := decide_eq_false h2
  have hn : n ≤ 50000 := by omega
  have KR := Lib.hid (readCode_any HS.out hn)
  go_enter Tryf.func4, Tryf.ntmps4
  go_wp2_with fail
  refine KR.out.mono ?_
  rintro e w1 ⟨R, size, a, A8, n8, c8, A9, n9, c9, s, hR, hb1, rfl, hsz⟩
  have HR := Lib.hid hR
  have HB1 := Lib.hid hb1
  have HSZ := Lib.hid hsz
  clear hR hb1 hsz
  obtain ⟨k, hk⟩ : ∃ k, clsR R = k := ⟨_, rfl⟩
  rw [hk]
  have HK := Lib.hid hk
  clear hk
  have hbz := HB1.out.size
  obtain ⟨w2, hw2⟩ : ∃ w2, w1.alloc (.cells #[.int .i64 a, .slice A8 n8 c8, .slice A9 n9 c9] 31) = w2 := ⟨_, rfl⟩
  have hb2 : Below W.heap.size W w2 := by rw [← hw2]; exact HB1.out.trans ((below_new w1 _).mono hbz)
  have hon : Only (fun _ => False) W w2 := Only.of_below hb2 (fun k hk _ => hk)
  have KH := Lib.hid (huffTable_any F (w := w2) (by rw [hon.tape]; exact HF.out) (HS.out.below hb2) hb2.size hn ((HEOF.out.keep hon (fun _ _ e => e)).raise hb2.size (Nat.le_refl _)))
  have HB2 := Lib.hid hb2
  have HW2 := Lib.hid hw2
  clear hon hb2 hw2
  by_cases hk2 : (k : Int) = 2
  · have hdk : decide ((k : Int) = 2) = true := decide_eq_true hk2
    go_wp2_with fail
    go_ret
    rw [HW2.out]
    exact ⟨rfl, HB2.out⟩
  · have hdk : decide ((k : Int) = 2) = false := decide_eq_false hk2
    go_upto_region 8 with fail
    rw [HW2.out]
    go_wp2_with fail
    refine KH.out.mono ?_
    rintro e w3 ⟨hp, hb3⟩
    have HB3 := Lib.hid (HB2.out.trans (hb3.mono HB2.out.size))
    clear hb3
    rcases hp with ⟨n', rfl, hl⟩ | ⟨rfl, hl⟩
    · rcases hl R size HR.out with h | ⟨h, h'⟩
      · exact absurd (HK.out.symm.trans h) (by omega)
      · have h0 : k = 0 := HK.out.symm.trans h
        have hs := HSZ.out h
        subst h0
        subst hs
        have hsub : (n : Int) - (size : Int) = (n' : Nat) := by omega
        clear hl
        go_wp2_with fail
        go_ret
        exact ⟨rfl, HB3.out⟩
    · have h0 : clsR R ≠ 0 := hl R size HR.out
      rw [HK.out] at h0
      have hd0 : decide ((k : Int) = 0) = false := decide_eq_false (by omega)
      clear hl
      go_wp2_with fail
      go_ret
      have hb0 : ((k : Int) == 0) = false := by rw [beq_eq_false_iff_ne]; omega
      refine ⟨?_, HB3.out⟩
      show Ending.returned (.bool (!((k : Int) == 0))) = _
      rw [hb0]
      rfl
end Go.Proofs.YthkklojjpgjiiaaFmt
