/-
  fse.decompress: what is told of its end. Definitions and plain lemmas.
  What the specification says of the bits behind the chances. Plain lemmas; conditions: those of each.
  fse.decompress: the two first states. Conditions: those of each.
  Facts on descriptions that fse.Decompress rests on. Plain lemmas; conditions: those of each.
-/
import Derived.Test.YthkklojjpgjiiaaFmtHuffT41
import Derived.Test.YthkklojjpgjiiaaFmtHuffT40
import Derived.Test.YthkklojjpgjiiaaFmtHuffT34
import Derived.Test.YthkklojjpgjiiaaFmtHuffT07
namespace Go.Proofs.YthkklojjpgjiiaaFmt
open Go.RowKit Go.Extern.Stop Go.Stop Go.Extern

theorem SR.det {sy bt bs : Nat → Nat} {l : List UInt8} {L a b : Nat} {out : List Int} {R R' : WRes} (h : SR sy bt bs l L a b out R) (h' : SR sy bt bs l L a b out R') : R = R' := by
  induction h with
  | full h => exact (h'.mustFull h).symm
  | next h hb hr ih =>
    cases h' with
    | full h2 => omega
    | next h2 hb2 hr2 => exact ih hr2
    | over h2 hb2 hL => omega
    | end_ h2 hb2 h3 => omega
    | long h2 hb2 h3 => omega
  | over h hb hL => exact (h'.ov h hb hL).symm
  | end_ h hb h2 =>
    rcases h'.fin h ⟨rfl, hb⟩ with ⟨_, e⟩ | ⟨h3, _⟩
    · exact e.symm
    · omega
  | long h hb h2 =>
    rcases h'.fin h ⟨rfl, hb⟩ with ⟨h3, _⟩ | ⟨_, e⟩
    · omega
    · exact e.symm
/-- io.ErrUnexpectedEOF lies below block H -/
def EofB (w : World) (H : Nat) : Prop := H ≤ w.heap.size ∧ 2 < H ∧ ∃ (b : Addr) (s : ByteArray), b.block < H ∧ w.cell? ⟨2, 0, none⟩ = some (.iface 107 (.pointer (some b))) ∧ w.cell? b = some (.string s)
theorem EofB.in_ {w w' : World} {H : Nat} (h : EofB w H) {S : Nat → Prop} (ho : Only S w w') (hS : ∀ k, k < H → ¬ S k) : ∃ b s, b.block < H ∧ EofAt b s w' := by
  obtain ⟨hz, hg, b, s, hb, h1, h2⟩ := h
  exact ⟨b, s, hb, by rw [World.cell?_of_block (ho.block 2 (hS _ hg) (by omega))]; exact h1, by rw [World.cell?_of_block (ho.block b.block (hS _ hb) (by omega))]; exact h2⟩
theorem EofB.keep {w w' : World} {H : Nat} (h : EofB w H) {S : Nat → Prop} (ho : Only S w w') (hS : ∀ k, k < H → ¬ S k) : EofB w' H := by
  obtain ⟨hz, hg, b, s, hb, h1, h2⟩ := h
  exact ⟨Nat.le_trans hz ho.size, hg, b, s, hb, by rw [World.cell?_of_block (ho.block 2 (hS _ hg) (by omega))]; exact h1, by rw [World.cell?_of_block (ho.block b.block (hS _ hb) (by omega))]; exact h2⟩
/-- what decompress hands back -/
def DlFin (w0 : World) (D U H oH NH : Nat) (TH : TypeId) (fh0 : Nat → Value) (R : WRes) (F : Act) (w : World) : Prop :=
  F.defers = [] ∧ F.tmps.size = 265 ∧ Only (fun k => k = D ∨ k = U ∨ k = H) w0 w ∧ HKeep H oH NH TH fh0 w ∧
    ((∃ (b : Addr) (s : ByteArray), F.tmps.getD 2 undef = .iface 107 (.pointer (some b)) ∧ w.cell? b = some (.string s) ∧ b ≠ ⟨D, 526, none⟩ ∧ (R = .refused ∨ R = .open_)) ∨
     (F.tmps.getD 2 undef = .nilIface ∧ ∃ f' v, RowF w D 98 534 f' ∧ f' 526 = v ∧ ((∃ out, R = .good out ∧ OutA w H oH NH TH fh0 v out) ∨ (R = .refused ∧ ∃ A' n' c', v = .slice A' n' c' ∧ 255 < n'))))
theorem DlErrK.fin {w0 : World} {D U H oH NH : Nat} {TH : TypeId} {fh0 : Nat → Value} {R : WRes} {F : Act} {w : World} (h : DlErrK w0 D U H oH NH TH fh0 R F w) : DlFin w0 D U H oH NH TH fh0 R F w := by
  obtain ⟨⟨h1, h2, b, s, h3, h4, h5, h6⟩, h7⟩ := h
  exact ⟨h1, h2, h6, h7, .inl ⟨⟨b, 0, none⟩, s, h3, h4, (fun e => by cases e), h5⟩⟩
section
variable {w0 wr w2 : World} {D U T S G1 G2 H oH NH : Nat} {TH : TypeId} {fh0 : Nat → Value} {Z : Option Obj} {A : Option Addr} {n c off rd : Nat} {l : List UInt8} {f0 : Nat → Value} {sy bt bs : Nat → Nat} {a1 a2 : Nat} {out : List Int} {v : Value} {R : WRes}
theorem updV_self (f : Nat → Value) (i : Nat) {v : Value} (h : f i = v) : updV f i v = f := by
  funext k
  unfold updV
  by_cases e : k = i
  · rw [if_pos e, e, h]
  · rw [if_neg e]
theorem St1.start (h : St1 w0 D U T S G1 G2 H Z A n c l f0 sy bt bs R off rd a1 a2 out wr) (h526 : f0 526 = v) (hO : OutA wr H oH NH TH fh0 v []) : Fin w0 D U T S G1 G2 H oH NH TH fh0 A n c l f0 sy bt bs off rd a1 a2 [] v wr := by
  refine ⟨by rw [updV_self f0 526 h526]; exact h.hb, ⟨Z, h.hm.noTmp⟩, hO, h.h1, h.h2⟩
end
end Go.Proofs.YthkklojjpgjiiaaFmt
namespace Go.Proofs.YthkklojjpgjiiaaFmt
open Go.RowKit

/-- what is read out of the bits l by a table with 2^lg states -/
def DR (l : List UInt8) (lg : Nat) (sy bt bs : Nat → Nat) (R : WRes) : Prop :=
  ((l = [] ∨ lastB l = 0) ∧ R = .refused) ∨ (l ≠ [] ∧ lastB l ≠ 0 ∧ backL l < 2 * lg ∧ R = .open_) ∨
  (l ≠ [] ∧ lastB l ≠ 0 ∧ 2 * lg ≤ backL l ∧ SR sy bt bs l (backL l - 2 * lg) (numF l (backL l - lg) lg) (numF l (backL l - 2 * lg) lg) [] R)
theorem EncR.dr {l : List UInt8} {R : WRes} (h : EncR l R) {out : List Int} {off lg : Nat} (hlg : numF l 0 4 + 5 = lg)
    (hlink : ∀ R, TopR l R → (off = l.length ∧ LostR l R) ∨ ∃ i, R = some (out, i) ∧ off = (i + 7) / 8) :
    R = .open_ ∨ DR (l.drop off) lg (symF out (2 ^ lg)) (bitsF out lg) (baseF out lg) R := by
  cases h with
  | bad h =>
    rcases hlink _ h with ⟨e, _⟩ | ⟨i, e, _⟩
    · exact .inr (.inl ⟨.inl (by rw [e, List.drop_length]), rfl⟩)
    · cases e
  | @noEnd cs i h h2 =>
    rcases hlink _ h with ⟨e, _⟩ | ⟨i', e, e2⟩
    · exact .inr (.inl ⟨.inl (by rw [e, List.drop_length]), rfl⟩)
    · cases e
      exact .inr (.inl ⟨by rw [e2]; exact h2, rfl⟩)
  | loops h h2 => exact .inl rfl
  | short h h2 => exact .inl rfl
  | @run cs i lg' L S r _ h hl hS hr hne hlast hnl hL hlong hs =>
    rcases hlink _ h with ⟨e, h3⟩ | ⟨i', e, e2⟩
    · exfalso
      have h4 := h3 _ _ rfl
      apply hne
      rw [← hr]
      exact List.drop_eq_nil_of_le (by omega)
    · cases e
      have hll : lg' = lg := by omega
      subst hll
      subst hS
      subst hL
      rw [← e2] at hr
      subst hr
      exact .inr (.inr (.inr ⟨hne, hlast, hlong, hs⟩))
/-- a symbol is a byte -/
theorem SR.good_lt {sy bt bs : Nat → Nat} {l : List UInt8} {S L a b : Nat} {out : List Int} {R : WRes} (hnx : ∀ i v, i < S → v < 2 ^ bt i → bs i + v < S) (hsy : ∀ i, i < S → sy i < 256) (h : SR sy bt bs l L a b out R) :
    a < S → b < S → (∀ x ∈ out, x < 256) → ∀ o, R = .good o → ∀ x ∈ o, x < 256 := by
  induction h with
  | full h => intro _ _ _ o e; cases e
  | @next L a b out R h hb hr ih =>
    intro ha hb2 h0 o e
    refine ih hb2 (hnx a _ ha (numF_lt _ _ _)) (fun x hx => ?_) o e
    rcases List.mem_append.1 hx with h1 | h1
    · exact h0 x h1
    · rw [List.mem_singleton.1 h1]
      have := hsy a ha
      omega
  | over h hb hL => intro _ _ _ o e; cases e
  | @end_ a b out h hb h2 =>
    intro ha hb2 h0 o e
    cases e
    intro x hx
    have h3 := hsy a ha
    have h4 := hsy b hb2
    rcases List.mem_append.1 hx with h1 | h1
    · exact h0 x h1
    · simp only [List.mem_cons, List.not_mem_nil, or_false] at h1
      rcases h1 with rfl | rfl <;> omega
  | long h hb h2 => intro _ _ _ o e; cases e
end Go.Proofs.YthkklojjpgjiiaaFmt
namespace Go.Proofs.YthkklojjpgjiiaaFmt
open Go.RowKit Go.Extern.Stop Go.Stop Go.Extern

theorem Only.join {S S' : Nat → Prop} {w w1 w2 : World} (h : Only S w w1) (h2 : Only S' w1 w2) (hs : ∀ k, k < w.heap.size → S' k → S k) : Only S w w2 :=
  ⟨h2.os.trans h.os, h2.tape.trans h.tape, h2.output.trans h.output, Nat.le_trans h.size h2.size, fun k h3 h4 => (h2.block k (fun h5 => h3 (hs k h4 h5)) (Nat.lt_of_lt_of_le h4 h.size)).trans (h.block k h3 h4), fun k hk T N hr => h2.rows k (Nat.lt_of_lt_of_le hk h.size) T N (h.rows k hk T N hr)⟩
section
variable {w : World} {D G1 G2 T S : Nat} {A : Option Addr} {n c off rd : Nat} {l : List UInt8} {f0 : Nat → Value}
/-- behind the first one -/
def In1 (D : Nat) (A : Option Addr) (n c : Nat) (l : List UInt8) (f0 : Nat → Value) (lg off rd a1 : Nat) (w : World) : Prop :=
  (2 * lg ≤ leftB off rd ∧ BrIn w D 98 534 514 A n c l f0 off (rd + lg) w ∧ a1 = numF l (leftB off rd - lg) lg) ∨
  (leftB off rd < 2 * lg ∧ ∃ rd1, (leftB 0 rd1 < lg ∨ 64 < rd1) ∧ BrAny w D A n c l f0 0 rd1)
/-- behind both -/
def In2 (D : Nat) (A : Option Addr) (n c : Nat) (l : List UInt8) (f0 : Nat → Value) (lg off rd a1 a2 : Nat) (w : World) : Prop :=
  (2 * lg ≤ leftB off rd ∧ BrIn w D 98 534 514 A n c l f0 off (rd + lg + lg) w ∧ a1 = numF l (leftB off rd - lg) lg ∧ a2 = numF l (leftB off rd - 2 * lg) lg) ∨
  (leftB off rd < 2 * lg ∧ ∃ rd2, 64 ≤ rd2 ∧ BrAny w D A n c l f0 0 rd2)
theorem BrAny.onlyOther {w' : World} (h : BrAny w D A n c l f0 off rd) {P : Nat → Prop} (ho : Only P w w') (hS : ¬ P D) : BrAny w' D A n c l f0 off rd := by
  rcases h with h | ⟨e, h⟩
  · exact .inl (h.onlyOther ho hS)
  · exact .inr ⟨e, h.onlyOther ho hS⟩
theorem In1.onlyOther {w' : World} {lg a1 : Nat} (h : In1 D A n c l f0 lg off rd a1 w) {P : Nat → Prop} (ho : Only P w w') (hS : ¬ P D) : In1 D A n c l f0 lg off rd a1 w' := by
  rcases h with ⟨h1, h2, h3⟩ | ⟨h1, rd1, h2, h3⟩
  · exact .inl ⟨h1, h2.onlyOther ho hS, h3⟩
  · exact .inr ⟨h1, rd1, h2, h3.onlyOther ho hS⟩
theorem In2.onlyOther {w' : World} {lg a1 a2 : Nat} (h : In2 D A n c l f0 lg off rd a1 a2 w) {P : Nat → Prop} (ho : Only P w w') (hS : ¬ P D) : In2 D A n c l f0 lg off rd a1 a2 w' := by
  rcases h with ⟨h1, h2, h3⟩ | ⟨h1, rd1, h2, h3⟩
  · exact .inl ⟨h1, h2.onlyOther ho hS, h3⟩
  · exact .inr ⟨h1, rd1, h2, h3.onlyOther ho hS⟩
theorem BrIn.drewB (h : BrIn w D 98 534 514 A n c l f0 off rd w) (q : Nat) : BrIn (w.drewN q) D 98 534 514 A n c l f0 off rd (w.drewN q) := (h.drewN q).base
theorem In1.drewN {lg a1 : Nat} (h : In1 D A n c l f0 lg off rd a1 w) (q : Nat) : In1 D A n c l f0 lg off rd a1 (w.drewN q) :=
  h.onlyOther (P := fun _ => False) ((Only.refl _ w).drewN q) (fun e => e)
set_option maxRecDepth 100000 in
theorem init1 {lg : Nat} (hlg : lg = 5 ∨ lg = 6) (hS : 2 ^ lg = S) (hb : BrIn w D 98 534 514 A n c l f0 off rd w) (hrd : rd ≤ 8 ∨ off = 0) {g0 : Nat → Value} (hG : RowF w G1 167 3 g0) (hDG : D ≠ G1) :
    Calls Tryf.prog 65 #[.pointer (some ⟨G1, 0, none⟩), .pointer (some ⟨D, 514, none⟩), .slice (some ⟨T, 0, none⟩) S S, .int .u8 (lg : Nat)] w fun e w' => e = .returned (.tuple #[]) ∧ ∃ a1, a1 < S ∧
      RowF w' G1 167 3 (dcS D T S a1) ∧ Only (fun k => k = D ∨ k = G1) w w' ∧ In1 D A n c l f0 lg off rd a1 w' := by
  have hrd64 := hb.rd64
  by_cases hL : lg ≤ 64 - rd
  · refine (dcInit_any hb hG hDG lg (by omega) hL rfl).mono ?_
    rintro e w' ⟨rfl, hb', hg', ho⟩
    refine ⟨rfl, _, by rw [← hS]; exact numF_lt _ _ _, hg', ho, ?_⟩
    by_cases h2 : 2 * lg ≤ leftB off rd
    · exact .inl ⟨h2, hb', rfl⟩
    · have h0 : off = 0 := by unfold leftB at h2; omega
      subst h0
      exact .inr ⟨by omega, rd + lg, .inl (by unfold leftB at h2 ⊢; omega), .inl hb'⟩
  · have h0 : off = 0 := by omega
    subst h0
    have hsh : leftB 0 rd < lg := by unfold leftB; omega
    refine (dcInit_of (T := T) (S := S) (P := fun w' => ∃ rd2, rd ≤ rd2 ∧ 64 ≤ rd2 ∧ BrAny w' D A n c l f0 0 rd2) hG hDG lg (fun w1 h1 => getBits_short (.inl (hb.onlyOther h1 hDG)) lg hlg hS (.inl hsh))).mono ?_
    rintro e w' ⟨a, w2, ha, rfl, ⟨rd2, h1, h2, h3⟩, rfl, hg', ho⟩
    refine ⟨rfl, a, ha, hg', ho, .inr ⟨by omega, rd2, ?_, h3.onlyOther ((Only.refl (· = G1) w2).set_ (p := ⟨G1, 0, none⟩) rfl _) hDG⟩⟩
    rcases (show rd2 = 64 ∨ 64 < rd2 by omega) with e | e
    · exact .inl (by unfold leftB; omega)
    · exact .inr e
set_option maxRecDepth 100000 in
theorem init2 {lg a1 : Nat} (hlg : lg = 5 ∨ lg = 6) (hS : 2 ^ lg = S) (hrd : rd ≤ 8 ∨ off = 0) (hrd64 : rd ≤ 64) (hi : In1 D A n c l f0 lg off rd a1 w) {g0 : Nat → Value} (hG : RowF w G2 167 3 g0) (hDG : D ≠ G2) :
    Calls Tryf.prog 65 #[.pointer (some ⟨G2, 0, none⟩), .pointer (some ⟨D, 514, none⟩), .slice (some ⟨T, 0, none⟩) S S, .int .u8 (lg : Nat)] w fun e w' => e = .returned (.tuple #[]) ∧ ∃ a2, a2 < S ∧
      RowF w' G2 167 3 (dcS D T S a2) ∧ Only (fun k => k = D ∨ k = G2) w w' ∧ In2 D A n c l f0 lg off rd a1 a2 w' := by
  rcases hi with ⟨h2, hb, h1⟩ | ⟨h2, rd1, hsh, hb⟩
  · have hl : lg ≤ 64 - (rd + lg) := by unfold leftB at h2; omega
    refine (dcInit_any hb hG hDG lg (by omega) hl rfl).mono ?_
    rintro e w' ⟨rfl, hb', hg', ho⟩
    refine ⟨rfl, _, by rw [← hS]; exact numF_lt _ _ _, hg', ho, .inl ⟨h2, hb', h1, ?_⟩⟩
    rw [leftB_add off rd lg (by omega), show leftB off rd - lg - lg = leftB off rd - 2 * lg by omega]
  · refine (dcInit_of (T := T) (S := S) (P := fun w' => ∃ rd2, rd1 ≤ rd2 ∧ 64 ≤ rd2 ∧ BrAny w' D A n c l f0 0 rd2) hG hDG lg (fun w1 h1 => getBits_short (hb.onlyOther h1 hDG) lg hlg hS hsh)).mono ?_
    rintro e w' ⟨a, w2, ha, rfl, ⟨rd2, h1, h3, h4⟩, rfl, hg', ho⟩
    exact ⟨rfl, a, ha, hg', ho, .inr ⟨h2, rd2, h3, h4.onlyOther ((Only.refl (· = G2) w2).set_ (p := ⟨G2, 0, none⟩) rfl _) hDG⟩⟩
end
end Go.Proofs.YthkklojjpgjiiaaFmt
namespace Go.Proofs.YthkklojjpgjiiaaFmt
open Go.RowKit

theorem chanceF_ge (l : List UInt8) (i left : Nat) : i + chB left - 1 ≤ (chanceF l i left).2 := by
  unfold chanceF
  split
  · exact Nat.le_refl _
  · split <;> (dsimp only; omega)
theorem CR.ge {l : List UInt8} {i left : Nat} {out : List Int} {R : Option (List Int × Nat)} (h : CR l i left out R) : ∀ o j, R = some (o, j) → i ≤ j := by
  induction h with
  | done h h2 => rintro o i e; cases e; exact Nat.le_refl _
  | bad h => rintro o i e; cases e
  | stop h0 h => rintro o i e; cases e
  | @some_ i left out c j R h0 h h2 hc hne hr ih =>
    intro o j2 e
    have h3 := ih o j2 e
    have h4 := chanceF_ge l i left
    rw [hc] at h4
    have := chB_ge left h0
    dsimp only at h4
    omega
  | @zero i left out j k j2 R h0 h h2 hc hz hr ih =>
    intro o j3 e
    have h3 := ih o j3 e
    have h4 := chanceF_ge l i left
    rw [hc] at h4
    have := chB_ge left h0
    have := hz.ge
    dsimp only at h4
    omega
theorem chB_32 : chB 32 = 6 := by unfold chB; decide
theorem chB_64 : chB 64 = 7 := by unfold chB; decide
/-- a good description of chances is at least nine bits long -/
theorem TopR.nine {l : List UInt8} {cs : List Int} {i : Nat} (h : TopR l (some (cs, i))) : 9 ≤ i := by
  rcases h with ⟨_, h⟩ | ⟨h1, h2, h3⟩
  · cases h
  · have key : ∀ left, (left = 32 ∨ left = 64) → CR l 4 left [] (some (cs, i)) → 9 ≤ i := by
      intro left hl hc
      have hb : 6 ≤ chB left := by rcases hl with e | e <;> subst e <;> simp [chB_32, chB_64]
      cases hc with
      | done => omega
      | some_ h0 h h2 hc hne hr =>
        have h3 := hr.ge _ _ rfl
        have h4 := chanceF_ge l 4 left
        rw [hc] at h4
        dsimp only at h4
        omega
      | zero h0 h h2 hc hz hr =>
        have h3 := hr.ge _ _ rfl
        have h4 := chanceF_ge l 4 left
        rw [hc] at h4
        have := hz.ge
        dsimp only at h4
        omega
    refine key (2 ^ (numF l 0 4 + 5)) ?_ h3
    rcases lg_cases (numF l 0 4) h2 with ⟨_, e⟩ | ⟨_, e⟩
    · exact .inl e
    · exact .inr e
/-- one symbol alone: a state that goes nowhere -/
theorem loops_one {cs : List Int} {lg S : Nat} (hlg : lg = 5 ∧ S = 32 ∨ lg = 6 ∧ S = 64) (hl : Least cs) (hs : sumA cs = S) (h1 : cs.length ≤ 1) : LoopsF cs lg := by
  have hSp : 2 ^ lg = S := by rcases hlg with ⟨rfl, rfl⟩ | ⟨rfl, rfl⟩ <;> rfl
  have hS0 : 0 < S := by omega
  have hso := sym_ok cs S hl hs (by omega) 0 hS0
  have h0 : symF cs S 0 = 0 := by omega
  match cs, h1, hl, hs, hso, h0 with
  | [], _, _, hs, _, _ => simp [sumA] at hs; omega
  | [c], _, hl, hs, hso, h0 =>
    have hc : c.natAbs = S := by simpa [sumA] using hs
    have hcl := hl c (by simp)
    have hcp : c = (S : Int) := by omega
    have how : ownF [c] S 0 = S := by
      unfold ownF cnt nxt
      rw [h0]
      subst hcp
      simp
      omega
    refine ⟨0, by omega, ?_, ?_⟩
    · unfold bitsF
      rw [hSp, how, ← hSp, Nat.log2_two_pow]
      omega
    · unfold baseF bitsF
      rw [hSp, how]
      have : S.log2 = lg := by rw [← hSp, Nat.log2_two_pow]
      rw [this, Nat.sub_self, Nat.pow_zero]
      omega
/-- where the program refuses the chances -/
theorem EncR.early {l : List UInt8} {R : WRes} (h : EncR l R) (hlink : ∀ R, TopR l R → R = none ∨ LostR l R ∨ l.length < 4 ∨ ∃ o i, R = some (o, i) ∧ o.length ≤ 1) : R = .refused ∨ R = .open_ := by
  cases h with
  | bad h => exact .inl rfl
  | noEnd h h2 => exact .inl rfl
  | loops h h2 => exact .inr rfl
  | short h h2 => exact .inr rfl
  | @run cs i lg L S r _ h hlg hS hr hne hlast hnl hL hlong hs =>
    exfalso
    have hv := h.valid
    rcases hlink _ h with e | e | e | ⟨o, i', e, e2⟩
    · cases e
    · have h4 := e _ _ rfl
      apply hne
      rw [← hr]
      exact List.drop_eq_nil_of_le (by omega)
    · have h9 := h.nine
      have hrl : r.length = l.length - (i + 7) / 8 := by rw [← hr, List.length_drop]
      have hb : backL r ≤ 8 * (r.length - 1) + 7 := by
        unfold backL
        have h8 : lastB r < 256 := UInt8.toNat_lt _
        have : (lastB r).log2 < 8 := (Nat.log2_lt hlast).2 h8
        omega
      omega
    · cases e
      refine hnl (loops_one (S := 2 ^ lg) ?_ hv.1 (by rw [hv.2.1, hlg]) e2)
      have := lg_cases (numF l 0 4) hv.2.2.2.2.1
      rw [hlg] at this
      exact this
/-- where the program refuses the table -/
theorem EncR.turns {l : List UInt8} {R : WRes} (h : EncR l R) {out : List Int} {off lg : Nat} (hlg : numF l 0 4 + 5 = lg)
    (hlink : ∀ R, TopR l R → (off = l.length ∧ LostR l R) ∨ ∃ i, R = some (out, i) ∧ off = (i + 7) / 8) (hl : LoopsF out lg) : R = .refused ∨ R = .open_ := by
  cases h with
  | bad h => exact .inl rfl
  | noEnd h h2 => exact .inl rfl
  | loops h h2 => exact .inr rfl
  | short h h2 => exact .inr rfl
  | @run cs i lg' L S r _ h hlg' hS hr hne hlast hnl hL hlong hs =>
    exfalso
    rcases hlink _ h with ⟨e, h3⟩ | ⟨i', e, e2⟩
    · have h4 := h3 _ _ rfl
      apply hne
      rw [← hr]
      exact List.drop_eq_nil_of_le (by omega)
    · cases e
      have hll : lg' = lg := by omega
      subst hll
      exact hnl hl
/-- without a state of no bits -/
theorem bits_one {cs : List Int} {lg S : Nat} (hlg : lg = 5 ∧ S = 32 ∨ lg = 6 ∧ S = 64) (hl : Least cs) (hs : sumA cs = S) (hlen : cs.length ≤ 256) (hz : ∀ j, cs.getD j 0 < (2 ^ (lg - 1) : Nat)) (i : Nat) (hi : i < S) : 1 ≤ bitsF cs lg i := by
  have hSp : 2 ^ lg = S := by rcases hlg with ⟨rfl, rfl⟩ | ⟨rfl, rfl⟩ <;> rfl
  have how := own_facts cs S hl hs (by omega) hlen i hi
  have hz1 := hz (symF cs S i)
  have hp : 2 ^ lg = 2 * 2 ^ (lg - 1) := by rw [← Nat.pow_succ']; congr 1; omega
  have hp1 : 1 ≤ 2 ^ (lg - 1) := Nat.two_pow_pos _
  have hso := sym_ok cs S hl hs (by omega) i hi
  have hge : -1 ≤ cs.getD (symF cs S i) 0 := by
    rw [List.getD_eq_getElem?_getD, List.getElem?_eq_getElem hso.1, Option.getD_some]
    exact hl _ (List.getElem_mem hso.1)
  have h16 : 16 ≤ 2 ^ (lg - 1) := by rcases hlg with ⟨rfl, rfl⟩ | ⟨rfl, rfl⟩ <;> decide
  have hlt : ownF cs S i < 2 ^ lg := by omega
  unfold bitsF
  rw [hSp]
  have : (ownF cs S i).log2 < lg := (Nat.log2_lt (by omega)).2 hlt
  omega
end Go.Proofs.YthkklojjpgjiiaaFmt
