/-
  The named variables and the arguments read behind a call that writes nothing old as they read before it. Plain lemmas on the frame of a statement; conditions: those of each.
  fse.decompress: what is told of the memory in its last loop where more bits were asked for than there are. Plain lemmas; conditions: those of each.
  Appending where there is no room left, as a step of a region that draws its order. Conditions: those of the theorem.
  fse.decompress: the bytes put out no longer fit. Plain lemmas; conditions: those of each.
  fse.decompress: fill and finished in its last loop. Plain lemmas; conditions: those of each.
  fse.decoder.init where there are not bits enough. Conditions: those of each.
-/
import Derived.Test.YthkklojjpgjiiaaFmtRows
import Derived.WalkKit
import Derived.ProofKit
import Derived.OpenShut
import Derived.ShutString
import Derived.ChangeOld
import Derived.Below
import Derived.Deep.DeepHandedRow
import Derived.Lib.LaidTab
import Derived.Test.YthkklojjpgjiiaaFmtHuffT33
import Derived.Test.YthkklojjpgjiiaaFmtHuffT32
namespace Go.Proofs.YthkklojjpgjiiaaFmt
open Go.ChangeShapes Go.WideShapes Go.ChangeAt Go.RowKit

def varOk (P : Program) (n : String) : Bool :=
  match P.globalNamed n with
  | some g => match (P.globals[g]?).map (·.type) with
    | some t => P.readableRec t && decide (t < P.types.size)
    | none => false
  | none => false

theorem vars_below {H : Type} {enc : TypeId × Value → H} {P : Program} {W W' : World} (hl : laidOutB P = true) (hb : Below W.heap.size W W') :
    ∀ {ns : List String} {gs : List (DataW H)} {ps : List MemPlace}, (ns.all fun n => varOk P n) = true → DataW.TrodVars enc P W (fun _ => true) ns gs ps → (∀ x ∈ ps, x.block < W.heap.size) →
      DataW.TrodVars enc P W' (fun b => decide (b < W.heap.size)) ns gs ps
  | [], [], ps, _, h, _ => h
  | [], _ :: _, _, _, h, _ => h.elim
  | _ :: _, [], _, _, h, _ => h.elim
  | n :: ns, d :: ds, ps, hk, h, hlt => by
    obtain ⟨g, t, cs, fuel, p, q, hg, ht, hv, hd, hrest, rfl⟩ := h
    rw [List.all_cons, Bool.and_eq_true] at hk
    have hok : P.readableRec t = true ∧ t < P.types.size := by
      have h1 := hk.1
      unfold varOk at h1
      rw [hg] at h1
      simp only [ht, Bool.and_eq_true, decide_eq_true_eq] at h1
      exact h1
    have hgb : g < W.heap.size := by
      have h1 := hv
      unfold World.var? at h1
      simp only [hg, Option.bind_some] at h1
      rcases Nat.lt_or_ge g W.heap.size with hlt | hge
      · exact hlt
      · rw [Array.getElem?_eq_none hge] at h1; cases h1
    have hv' : W'.var? P n = some cs := by
      unfold World.var? at hv ⊢
      simp only [hg, Option.bind_some] at hv ⊢
      rw [hb.block g hgb]
      exact hv
    refine ⟨g, t, cs, fuel, p, q, hg, ht, hv', ?_, vars_below hl hb hk.2 hrest (fun x hx => hlt x (by simp [hx])), rfl⟩
    exact DataW.trod_stays (kids_book hl hok.1) (book_sized hok.1) (fun h => by cases h) ⟨hok.2, book_self t⟩ hd (fun x hx => hb.same (hlt x (by simp [hx]))) (fun x hx => by simpa using hlt x (by simp [hx]))

theorem trodVars_len {H : Type} {enc : TypeId × Value → H} {P : Program} {W : World} {sp : Nat → Bool} : ∀ {ns : List String} {gs : List (DataW H)} {ps : List MemPlace}, DataW.TrodVars enc P W sp ns gs ps → gs.length = ns.length
  | [], [], _, _ => rfl
  | [], _ :: _, _, h => h.elim
  | _ :: _, [], _, h => h.elim
  | _ :: ns, _ :: ds, _, h => by
    obtain ⟨_, _, _, _, _, _, _, _, _, _, hrest, _⟩ := h
    simp [trodVars_len hrest]
theorem list1 {α : Type} {l : List α} (h : l.length = 1) : ∃ a, l = [a] := by
  match l, h with
  | [a], _ => exact ⟨a, rfl⟩
theorem list2 {α : Type} {l : List α} (h : l.length = 2) : ∃ a b, l = [a, b] := by
  match l, h with
  | [a, b], _ => exact ⟨a, b, rfl⟩
theorem list3 {α : Type} {l : List α} (h : l.length = 3) : ∃ a b c, l = [a, b, c] := by
  match l, h with
  | [a, b, c], _ => exact ⟨a, b, c, rfl⟩

/-- What a walk is told of a slice of integers that came in: it is nil, or it leads to a row of numbers of which the first are its elements. -/
def IsRow (k : IntKind) (w : World) (a : Option Addr) (len cap : Nat) (zs : List Int) : Prop :=
  (a = none ∧ len = 0 ∧ cap = 0 ∧ zs = []) ∨
  ∃ x, a = some x ∧ len ≤ cap ∧ cap ≤ maxLen ∧ zs.length = cap ∧ (∀ i, i < zs.length → w.cell? (x.add i) = some (.int k (zs.getD i 0))) ∧ ∀ n ∈ zs, (Lit.int k n).wf = true

theorem isRow_of {H : Type} {enc : TypeId × Value → H} {P : Program} {W : World} {T E : TypeId} {k : IntKind} {a : Option Addr} {len cap : Nat} {d : DataW H} {p : List MemPlace} (hT : P.underlying T = some (.slice E)) (hE : P.underlying E = some (.int k)) (hc : P.cellsOf E = 1)
    (h : DataW.Trod enc P W 0 (fun _ => true) true T (.slice a len cap) d p) : ∃ zs, IsRow k W a len cap zs := by
  obtain ⟨fuel, hf⟩ := h
  rcases open_ints hT hE hc hf with ⟨hcs, _⟩ | ⟨x, l, c, zs, hcs, _, hl, hm, hz, _, hcell, hwz⟩
  · simp [Value.cells] at hcs
    obtain ⟨rfl, rfl, rfl⟩ := hcs
    exact ⟨[], .inl ⟨rfl, rfl, rfl, rfl⟩⟩
  · simp [Value.cells] at hcs
    obtain ⟨rfl, rfl, rfl⟩ := hcs
    exact ⟨zs, .inr ⟨_, rfl, hl, hm, by simpa using hz, hcell, hwz⟩⟩
end Go.Proofs.YthkklojjpgjiiaaFmt
namespace Go.Proofs.YthkklojjpgjiiaaFmt
open Go.RowKit Go.Extern.Stop Go.Stop Go.Extern

/-- the reader of bits gone beyond its bits, the states, the bytes put out -/
structure FinD (w0 : World) (D U T S G1 G2 H oH NH : Nat) (TH : TypeId) (fh0 : Nat → Value) (A : Option Addr) (n c : Nat) (l : List UInt8) (f0 : Nat → Value) (sy bt bs : Nat → Nat) (rd a1 a2 : Nat) (out : List Int) (v : Value) (wr : World) : Prop where
  hb : BrDead wr D 98 534 514 A n c (updV f0 526 v) rd wr
  hm : ∃ Z, DcM w0 D U T S G1 G2 H Z A n c l sy bt bs a1 a2 [] wr
  ho : OutA wr H oH NH TH fh0 v out
  h1 : a1 < S
  h2 : a2 < S
theorem BrDead.allocN {w w0 : World} {D N o : Nat} {T : TypeId} {A : Option Addr} {n c rd : Nat} {f0 : Nat → Value} (h : BrDead w D T N o A n c f0 rd w0) (ob : Obj) : BrDead (w.alloc ob) D T N o A n c f0 rd (w.alloc ob) := by
  obtain ⟨f, val, hr, hk, hs, hb, h1, h2, hon⟩ := h
  exact ⟨f, val, hr.alloc ob, hk, hs, hb, h1, h2, Only.refl _ _⟩
section
variable {w0 wr w' : World} {D U T S G1 G2 H oH NH : Nat} {TH : TypeId} {fh0 : Nat → Value} {A : Option Addr} {n c rd : Nat} {l : List UInt8} {f0 : Nat → Value} {sy bt bs : Nat → Nat} {a1 a2 : Nat} {out : List Int} {v : Value}
theorem FinD.drewN (h : FinD w0 D U T S G1 G2 H oH NH TH fh0 A n c l f0 sy bt bs rd a1 a2 out v wr) (q : Nat) : FinD w0 D U T S G1 G2 H oH NH TH fh0 A n c l f0 sy bt bs rd a1 a2 out v (wr.drewN q) := by
  obtain ⟨hb, ⟨Z, hm⟩, ho, h1, h2⟩ := h
  exact ⟨(hb.drewN q).base, ⟨Z, hm.drewN q⟩, ho, h1, h2⟩
theorem FinD.alloc (E : DcE D U T S G1 G2 H sy bt bs) (h : FinD w0 D U T S G1 G2 H oH NH TH fh0 A n c l f0 sy bt bs rd a1 a2 out v wr) (o : Obj) : FinD w0 D U T S G1 G2 H oH NH TH fh0 A n c l f0 sy bt bs rd a1 a2 out v (wr.alloc o) := by
  obtain ⟨hb, ⟨Z, hm⟩, ho, h1, h2⟩ := h
  have hlt := hm.1.lt
  have hH := E.hHD; have hD := E.hDT
  exact ⟨hb.allocN o, ⟨Z, hm.alloc E o⟩, ho.same (Below.heap_alloc wr o H (by omega)), h1, h2⟩
theorem FinD.c526 (h : FinD w0 D U T S G1 G2 H oH NH TH fh0 A n c l f0 sy bt bs rd a1 a2 out v wr) : wr.cell? ⟨D, 526, none⟩ = some v := by
  obtain ⟨f, val, hr, hk, hs, _⟩ := h.hb
  exact hr.cellv 526 (by omega) _ (by rw [hk 526 (by omega) (by omega) (by omega), updV_same])
theorem FinD.lt (h : FinD w0 D U T S G1 G2 H oH NH TH fh0 A n c l f0 sy bt bs rd a1 a2 out v wr) : D < wr.heap.size := by
  obtain ⟨f, val, hr, _⟩ := h.hb
  exact hr.lt
theorem FinD.app (E : DcE D U T S G1 G2 H sy bt bs) (h : FinD w0 D U T S G1 G2 H oH NH TH fh0 A n c l f0 sy bt bs rd a1 a2 out v wr) {out' : List Int} {v' : Value} (hO : OutA w' H oH NH TH fh0 v' out') (hon : Only (· = H) wr w') :
    w'.cell? ⟨D, 526, none⟩ = some v ∧ w'.frozen? ⟨D, 526, none⟩ = false ∧ FinD w0 D U T S G1 G2 H oH NH TH fh0 A n c l f0 sy bt bs rd a1 a2 out' v' (w'.setCell ⟨D, 526, none⟩ v') := by
  obtain ⟨⟨f, val, hr, hk, hs, hbo, hq1, hq2, _⟩, ⟨Z, m1, m2, m3, ⟨tmp, m4, m5⟩, m6, m7, m8, m9⟩, ho, h1, h2⟩ := h
  have hH := E.hHD; have hD := E.hDT; have hT := E.hTU; have hU := E.hU1; have h12 := E.h12
  have hr' := hon.row hr (by omega)
  refine ⟨hr'.cellv 526 (by omega) _ (by rw [hk 526 (by omega) (by omega) (by omega), updV_same]), hr'.frozen 526, ⟨_, val, (hr'.set_ 526 v'), fun k q1 q2 q3 => ?_, ?_, hbo, hq1, hq2, Only.refl _ _⟩, ⟨_, (hon.row m1 (by omega)).other _ (show D ≠ T by omega), (hon.row m2 (by omega)).other _ (show D ≠ G1 by omega), (hon.row m3 (by omega)).other _ (show D ≠ G2 by omega), ⟨tmp, (hon.row m4 (by omega)).other _ (show D ≠ U by omega), m5⟩, (m6.keep fun b o hb => World.cell?_of_block (hon.block b (by omega) (by have := m1.lt; omega))).setCell (by show H ≤ D; omega) _, m7, (m8.trans (hon.mono fun _ e => .inr (.inr e))).set_ (.inl rfl) _, rfl⟩, hO.same (setCell_heap _ (show H ≠ D by omega)), h1, h2⟩
  · unfold updV
    by_cases e : k = 526
    · rw [if_pos e, if_pos e]
    · rw [if_neg e, if_neg e, hk k q1 q2 q3, updV_ne _ _ _ _ e]
  · obtain ⟨s1, s2, s3, s4⟩ := hs
    exact ⟨by rw [updV_ne _ _ _ _ (by omega)]; exact s1, by rw [updV_ne _ _ _ _ (by omega)]; exact s2, by rw [updV_ne _ _ _ _ (by omega)]; exact s3, by rw [updV_ne _ _ _ _ (by omega)]; exact s4⟩
theorem FinD.next1 (E : DcE D U T S G1 G2 H sy bt bs) (h : FinD w0 D U T S G1 G2 H oH NH TH fh0 A n c l f0 sy bt bs rd a1 a2 out v wr) (hb0 : bt a1 = 0) :
    Calls Tryf.prog 68 #[.pointer (some ⟨G1, 0, none⟩)] wr fun e w' => e = .returned (.int .u8 (sy a1 : Nat)) ∧ FinD w0 D U T S G1 G2 H oH NH TH fh0 A n c l f0 sy bt bs rd (bs a1) a2 out v w' := by
  obtain ⟨hb, ⟨Z, hm⟩, ho, h1, h2⟩ := h
  have hn := E.hnx a1 0 h1 (by rw [hb0]; decide)
  have hD := E.hDT; have hT := E.hTU; have hU := E.hU1; have h12 := E.h12
  refine (dcNext_dead hb hm.2.1 hm.1 (by omega) h1 hb0 (by omega) E.hS).mono ?_
  rintro e w' ⟨rfl, hb', hg', hon⟩
  have hm' := hm.first E hon hg'
  exact ⟨rfl, hb', ⟨Z, hm'⟩, ho.same (hm'.2.2.2.2.2.2.2.trans hm.2.2.2.2.2.2.2.symm), by omega, h2⟩
theorem FinD.next2 (E : DcE D U T S G1 G2 H sy bt bs) (h : FinD w0 D U T S G1 G2 H oH NH TH fh0 A n c l f0 sy bt bs rd a1 a2 out v wr) (hb0 : bt a2 = 0) :
    Calls Tryf.prog 68 #[.pointer (some ⟨G2, 0, none⟩)] wr fun e w' => e = .returned (.int .u8 (sy a2 : Nat)) ∧ FinD w0 D U T S G1 G2 H oH NH TH fh0 A n c l f0 sy bt bs rd a1 (bs a2) out v w' := by
  obtain ⟨hb, ⟨Z, hm⟩, ho, h1, h2⟩ := h
  have hn := E.hnx a2 0 h2 (by rw [hb0]; decide)
  have hD := E.hDT; have hT := E.hTU; have hU := E.hU1; have h12 := E.h12
  refine (dcNext_dead hb hm.2.2.1 hm.1 (by omega) h2 hb0 (by omega) E.hS).mono ?_
  rintro e w' ⟨rfl, hb', hg', hon⟩
  have hm' := hm.second E hon hg'
  exact ⟨rfl, hb', ⟨Z, hm'⟩, ho.same (hm'.2.2.2.2.2.2.2.trans hm.2.2.2.2.2.2.2.symm), h1, by omega⟩
theorem FinD.final1 (h : FinD w0 D U T S G1 G2 H oH NH TH fh0 A n c l f0 sy bt bs rd a1 a2 out v wr) :
    Calls Tryf.prog 70 #[.pointer (some ⟨G1, 0, none⟩)] wr fun e w' => e = .returned (.int .u8 (sy a1 : Nat)) ∧ FinD w0 D U T S G1 G2 H oH NH TH fh0 A n c l f0 sy bt bs rd a1 a2 out v w' := by
  obtain ⟨Z, hm⟩ := h.hm
  refine (dcFinal_any hm.2.1 hm.1 h.h1).mono ?_
  rintro e w' ⟨rfl, q, rfl⟩
  exact ⟨rfl, h.drewN q⟩
theorem FinD.final2 (h : FinD w0 D U T S G1 G2 H oH NH TH fh0 A n c l f0 sy bt bs rd a1 a2 out v wr) :
    Calls Tryf.prog 70 #[.pointer (some ⟨G2, 0, none⟩)] wr fun e w' => e = .returned (.int .u8 (sy a2 : Nat)) ∧ FinD w0 D U T S G1 G2 H oH NH TH fh0 A n c l f0 sy bt bs rd a1 a2 out v w' := by
  obtain ⟨Z, hm⟩ := h.hm
  refine (dcFinal_any hm.2.2.1 hm.1 h.h2).mono ?_
  rintro e w' ⟨rfl, q, rfl⟩
  exact ⟨rfl, h.drewN q⟩
/-- from the live reader to the dead one -/
theorem Fin.over1 (E : DcE D U T S G1 G2 H sy bt bs) (h : Fin w0 D U T S G1 G2 H oH NH TH fh0 A n c l f0 sy bt bs 0 rd a1 a2 out v wr) (hov : 64 - rd < bt a1) (hrd : rd < 64) :
    Calls Tryf.prog 68 #[.pointer (some ⟨G1, 0, none⟩)] wr fun e w' => ∃ b1, e = .returned (.int .u8 (sy a1 : Nat)) ∧ FinD w0 D U T S G1 G2 H oH NH TH fh0 A n c l f0 sy bt bs (rd + bt a1) b1 a2 out v w' := by
  obtain ⟨hb, ⟨Z, hm⟩, ho, h1, h2⟩ := h
  have hD := E.hDT; have hT := E.hTU; have hU := E.hU1; have h12 := E.h12
  refine (dcNext_over hb hm.2.1 hm.1 (by omega) (by omega) h1 (Nat.le_trans (E.hbt a1 h1) (by decide)) hov hrd E.hS (fun v hv => E.hnx a1 v h1 hv)).mono ?_
  rintro e w' ⟨b1, hb1, rfl, hb', hg', hon⟩
  have hm' := hm.first E hon hg'
  exact ⟨b1, rfl, hb', ⟨Z, hm'⟩, ho.same (hm'.2.2.2.2.2.2.2.trans hm.2.2.2.2.2.2.2.symm), hb1, h2⟩
theorem Fin.over2 (E : DcE D U T S G1 G2 H sy bt bs) (h : Fin w0 D U T S G1 G2 H oH NH TH fh0 A n c l f0 sy bt bs 0 rd a1 a2 out v wr) (hov : 64 - rd < bt a2) (hrd : rd < 64) :
    Calls Tryf.prog 68 #[.pointer (some ⟨G2, 0, none⟩)] wr fun e w' => ∃ b2, e = .returned (.int .u8 (sy a2 : Nat)) ∧ FinD w0 D U T S G1 G2 H oH NH TH fh0 A n c l f0 sy bt bs (rd + bt a2) a1 b2 out v w' := by
  obtain ⟨hb, ⟨Z, hm⟩, ho, h1, h2⟩ := h
  have hD := E.hDT; have hT := E.hTU; have hU := E.hU1; have h12 := E.h12
  refine (dcNext_over hb hm.2.2.1 hm.1 (by omega) (by omega) h2 (Nat.le_trans (E.hbt a2 h2) (by decide)) hov hrd E.hS (fun v hv => E.hnx a2 v h2 hv)).mono ?_
  rintro e w' ⟨b2, hb2, rfl, hb', hg', hon⟩
  have hm' := hm.second E hon hg'
  exact ⟨b2, rfl, hb', ⟨Z, hm'⟩, ho.same (hm'.2.2.2.2.2.2.2.trans hm.2.2.2.2.2.2.2.symm), h1, hb2⟩
end
end Go.Proofs.YthkklojjpgjiiaaFmt
namespace Go.Proofs.YthkklojjpgjiiaaFmt
open Go.RowKit

theorem step_out_grow {w : World} {ops : Array Oper} {o : Oper} {a : Act} {K : Act → World → Prop} {Q : Exit → Act → World → Prop} {E : Prop} (hgd : o.guard = none) (s x : Operand)
    (ho : o.op = .call { callee := .builtin .append, args := #[s, x], argTypes := #[28, 28] })
    {H oH NH : Nat} {TH : TypeId} {fh0 : Nat → Value} {v : Value} {out : List Int} (hs : a.eval s = v) (hO : OutA w H oH NH TH fh0 v out) (ad : Addr) (m c : Nat) (news : List Int) (hx : a.eval x = .slice (some ad) m c) (hn : news.length = m) (hm : m ≤ 1000)
    (hc : ∀ k, k < m → w.cell? (ad.add k) = some (.int .u8 (news.getD k 0))) (hfull : 256 < out.length + m)
    (hA : ∀ g cap w', Only (fun _ => False) w w' → K (a.put o.dst (.slice (some ⟨g, 0, none⟩) (out.length + m) cap)) w') :
    if Region.wanted o (yielded ops a.tmps) = true then Oper.wp Tryf.prog o a w K Q else E := by
  have hw : Region.wanted o (yielded ops a.tmps) = true := by simp [Region.wanted, hgd]
  rw [if_pos hw]
  obtain ⟨rfl, hl, hN, fh, hr, hk, hcell⟩ := hO
  have hnews : ∀ j u, (u8s news)[j]? = some u → w.cell? (ad.add j) = some u := by
    intro j u hu
    unfold u8s at hu
    rw [List.getElem?_map, Option.map_eq_some_iff] at hu
    obtain ⟨z, hz, rfl⟩ := hu
    have hj : j < news.length := (List.getElem?_eq_some_iff.1 hz).1
    rw [hc j (by omega), List.getD_eq_getElem?_getD, hz]
    rfl
  have hnl : (u8s news).length = m := by simp [u8s, hn]
  have holds : ∀ j u, (u8s out)[j]? = some u → w.cell? ((⟨H, oH, none⟩ : Addr).add j) = some u := by
    intro j u hu
    unfold u8s at hu
    rw [List.getElem?_map, Option.map_eq_some_iff] at hu
    obtain ⟨z, hz2, rfl⟩ := hu
    have hj : j < out.length := (List.getElem?_eq_some_iff.1 hz2).1
    rw [add_some, hr.cell (oH + j) (by omega), hcell j hj, List.getD_eq_getElem?_getD, hz2]
    rfl
  obtain ⟨i, hi, hz, hsz, hby⟩ := info_parts info_u8
  obtain ⟨v', w', hrun, ⟨_, h0⟩, hg⟩ := run_append_arg_grows (P := Tryf.prog) w 28 o.type 5 i (.int .u8 0) 1 1 Tryf.underlying28 hi hz hsz hby rfl (by omega) ⟨H, oH, none⟩ out.length 256 (u8s out) (by simp [u8s]) holds ad m c (u8s news) (by rw [hnl, Nat.mul_one]) hnews (by omega) (by unfold maxLen; omega) (by omega)
  rcases h0 with ⟨_, h0⟩ | ⟨g, cap, cur, rfl, _⟩
  · omega
  · unfold Oper.wp execOp
    simp only [ho, resolve, invoke, builtin, Sem.run_bind, Sem.run_pure, Result.andThen_ok, List.map_toArray, List.map_cons, List.map_nil, hs, hx, hrun]
    exact hA g cap w' ⟨hg.os, hg.tape, hg.output, hg.size, fun k _ hk2 => hg.block k hk2 (by simp), fun k hk _ _ ⟨f, hf⟩ => ⟨f, hf.same (hg.block k hk (by simp))⟩⟩
end Go.Proofs.YthkklojjpgjiiaaFmt
namespace Go.Proofs.YthkklojjpgjiiaaFmt
open Go.RowKit Go.Extern.Stop Go.Stop Go.Extern
section
variable {w0 wr w' : World} {D U T S G1 G2 H oH NH : Nat} {TH : TypeId} {fh0 : Nat → Value} {A : Option Addr} {n c off rd : Nat} {l : List UInt8} {f0 : Nat → Value} {sy bt bs : Nat → Nat} {a1 a2 : Nat} {out : List Int} {v : Value}
theorem Fin.appG (h : Fin w0 D U T S G1 G2 H oH NH TH fh0 A n c l f0 sy bt bs off rd a1 a2 out v wr) (hne : H ≠ D) (v' : Value) (hon : Only (fun _ => False) wr w') :
    w'.cell? ⟨D, 526, none⟩ = some v ∧ w'.frozen? ⟨D, 526, none⟩ = false ∧ BrIn (w'.setCell ⟨D, 526, none⟩ v') D 98 534 514 A n c l (updV f0 526 v') off rd (w'.setCell ⟨D, 526, none⟩ v') ∧ Only (fun k => k = D ∨ k = U ∨ k = H) w0 (w'.setCell ⟨D, 526, none⟩ v') ∧ HKeep H oH NH TH fh0 (w'.setCell ⟨D, 526, none⟩ v') := by
  obtain ⟨⟨f, val, hr, hk, hs, hbo, _⟩, ⟨Z, hm⟩, ho, h1, h2⟩ := h
  have hr' := hon.row hr (fun e => e)
  refine ⟨hr'.cellv 526 (by omega) _ (by rw [hk 526 (by omega) (by omega) (by omega), updV_same]), hr'.frozen 526, ⟨_, val, (hr'.set_ 526 v'), fun k q1 q2 q3 => ?_, ?_, hbo, Only.refl _ _⟩, (hm.2.2.2.2.2.2.1.trans (hon.mono fun _ e => e.elim)).set_ (.inl rfl) _, ho.keepH.only ((show Only (· = D) wr w' from hon.mono fun _ e => e.elim).set_ (p := ⟨D, 526, none⟩) rfl v') (fun e => hne e)⟩
  · unfold updV
    by_cases e : k = 526
    · rw [if_pos e, if_pos e]
    · rw [if_neg e, if_neg e, hk k q1 q2 q3, updV_ne _ _ _ _ e]
  · obtain ⟨s1, s2, s3, s4⟩ := hs
    exact ⟨by rw [updV_ne _ _ _ _ (by omega)]; exact s1, by rw [updV_ne _ _ _ _ (by omega)]; exact s2, by rw [updV_ne _ _ _ _ (by omega)]; exact s3, by rw [updV_ne _ _ _ _ (by omega)]; exact s4⟩
theorem FinD.appG (h : FinD w0 D U T S G1 G2 H oH NH TH fh0 A n c l f0 sy bt bs rd a1 a2 out v wr) (hne : H ≠ D) (v' : Value) (hon : Only (fun _ => False) wr w') :
    w'.cell? ⟨D, 526, none⟩ = some v ∧ w'.frozen? ⟨D, 526, none⟩ = false ∧ BrDead (w'.setCell ⟨D, 526, none⟩ v') D 98 534 514 A n c (updV f0 526 v') rd (w'.setCell ⟨D, 526, none⟩ v') ∧ Only (fun k => k = D ∨ k = U ∨ k = H) w0 (w'.setCell ⟨D, 526, none⟩ v') ∧ HKeep H oH NH TH fh0 (w'.setCell ⟨D, 526, none⟩ v') := by
  obtain ⟨⟨f, val, hr, hk, hs, hbo, hq1, hq2, _⟩, ⟨Z, hm⟩, ho, h1, h2⟩ := h
  have hr' := hon.row hr (fun e => e)
  refine ⟨hr'.cellv 526 (by omega) _ (by rw [hk 526 (by omega) (by omega) (by omega), updV_same]), hr'.frozen 526, ⟨_, val, (hr'.set_ 526 v'), fun k q1 q2 q3 => ?_, ?_, hbo, hq1, hq2, Only.refl _ _⟩, (hm.2.2.2.2.2.2.1.trans (hon.mono fun _ e => e.elim)).set_ (.inl rfl) _, ho.keepH.only ((show Only (· = D) wr w' from hon.mono fun _ e => e.elim).set_ (p := ⟨D, 526, none⟩) rfl v') (fun e => hne e)⟩
  · unfold updV
    by_cases e : k = 526
    · rw [if_pos e, if_pos e]
    · rw [if_neg e, if_neg e, hk k q1 q2 q3, updV_ne _ _ _ _ e]
  · obtain ⟨s1, s2, s3, s4⟩ := hs
    exact ⟨by rw [updV_ne _ _ _ _ (by omega)]; exact s1, by rw [updV_ne _ _ _ _ (by omega)]; exact s2, by rw [updV_ne _ _ _ _ (by omega)]; exact s3, by rw [updV_ne _ _ _ _ (by omega)]; exact s4⟩
end
end Go.Proofs.YthkklojjpgjiiaaFmt
namespace Go.Proofs.YthkklojjpgjiiaaFmt
open Go.RowKit Go.Extern.Stop Go.Stop Go.Extern
section
variable {w0 wr w' : World} {D U T S G1 G2 H oH NH : Nat} {TH : TypeId} {fh0 : Nat → Value} {A : Option Addr} {n c off rd : Nat} {l : List UInt8} {f0 : Nat → Value} {sy bt bs : Nat → Nat} {a1 a2 : Nat} {out : List Int} {v : Value}
theorem Fin.fill (E : DcE D U T S G1 G2 H sy bt bs) (h : Fin w0 D U T S G1 G2 H oH NH TH fh0 A n c l f0 sy bt bs off rd a1 a2 out v wr) (hn : n ≤ 1000000) :
    Calls Tryf.prog 71 #[.pointer (some ⟨D, 514, none⟩)] wr fun e w' => e = .returned (.tuple #[]) ∧ ∃ off1 rd1, leftB off1 rd1 = leftB off rd ∧ (rd1 ≤ 32 ∨ off1 = 0) ∧ Fin w0 D U T S G1 G2 H oH NH TH fh0 A n c l f0 sy bt bs off1 rd1 a1 a2 out v w' := by
  have hlt := h.lt
  obtain ⟨hb, ⟨Z, hm⟩, ho, h1, h2⟩ := h
  refine (fill_any hb (by omega) (hm.2.2.2.2.1.more (Nat.le_of_lt E.hHD)) hlt hn).mono ?_
  rintro e w' ⟨rfl, off1, rd1, hb1, hL, h32⟩
  have hm' := hm.reader E hb1.only
  exact ⟨rfl, off1, rd1, hL, h32, hb1.base, ⟨Z, hm'⟩, ho.same (hm'.2.2.2.2.2.2.2.trans hm.2.2.2.2.2.2.2.symm), h1, h2⟩
theorem FinD.fill (h : FinD w0 D U T S G1 G2 H oH NH TH fh0 A n c l f0 sy bt bs rd a1 a2 out v wr) :
    Calls Tryf.prog 71 #[.pointer (some ⟨D, 514, none⟩)] wr fun e w' => e = .returned (.tuple #[]) ∧ FinD w0 D U T S G1 G2 H oH NH TH fh0 A n c l f0 sy bt bs rd a1 a2 out v w' := by
  refine (fill_dead h.hb (by omega)).mono ?_
  rintro e w' ⟨rfl, rfl⟩
  exact ⟨rfl, h⟩
theorem Fin.fin1 (h : Fin w0 D U T S G1 G2 H oH NH TH fh0 A n c l f0 sy bt bs off rd a1 a2 out v wr) :
    Calls Tryf.prog 69 #[.pointer (some ⟨G1, 0, none⟩)] wr fun e w' => e = .returned (.bool (decide (leftB off rd = 0) && decide (0 < bt a1))) ∧ Fin w0 D U T S G1 G2 H oH NH TH fh0 A n c l f0 sy bt bs off rd a1 a2 out v w' := by
  obtain ⟨Z, hm⟩ := h.hm
  refine (dcFinished_any h.hb hm.2.1 hm.1 h.h1).mono ?_
  rintro e w' ⟨rfl, q, rfl⟩
  exact ⟨rfl, h.drewN q⟩
theorem Fin.fin2 (h : Fin w0 D U T S G1 G2 H oH NH TH fh0 A n c l f0 sy bt bs off rd a1 a2 out v wr) :
    Calls Tryf.prog 69 #[.pointer (some ⟨G2, 0, none⟩)] wr fun e w' => e = .returned (.bool (decide (leftB off rd = 0) && decide (0 < bt a2))) ∧ Fin w0 D U T S G1 G2 H oH NH TH fh0 A n c l f0 sy bt bs off rd a1 a2 out v w' := by
  obtain ⟨Z, hm⟩ := h.hm
  refine (dcFinished_any h.hb hm.2.2.1 hm.1 h.h2).mono ?_
  rintro e w' ⟨rfl, q, rfl⟩
  exact ⟨rfl, h.drewN q⟩
theorem FinD.fin1 (h : FinD w0 D U T S G1 G2 H oH NH TH fh0 A n c l f0 sy bt bs rd a1 a2 out v wr) :
    Calls Tryf.prog 69 #[.pointer (some ⟨G1, 0, none⟩)] wr fun e w' => e = .returned (.bool (decide (0 < bt a1))) ∧ FinD w0 D U T S G1 G2 H oH NH TH fh0 A n c l f0 sy bt bs rd a1 a2 out v w' := by
  obtain ⟨Z, hm⟩ := h.hm
  refine (dcFinished_dead h.hb hm.2.1 hm.1 h.h1).mono ?_
  rintro e w' ⟨rfl, q, rfl⟩
  exact ⟨rfl, h.drewN q⟩
theorem FinD.fin2 (h : FinD w0 D U T S G1 G2 H oH NH TH fh0 A n c l f0 sy bt bs rd a1 a2 out v wr) :
    Calls Tryf.prog 69 #[.pointer (some ⟨G2, 0, none⟩)] wr fun e w' => e = .returned (.bool (decide (0 < bt a2))) ∧ FinD w0 D U T S G1 G2 H oH NH TH fh0 A n c l f0 sy bt bs rd a1 a2 out v w' := by
  obtain ⟨Z, hm⟩ := h.hm
  refine (dcFinished_dead h.hb hm.2.2.1 hm.1 h.h2).mono ?_
  rintro e w' ⟨rfl, q, rfl⟩
  exact ⟨rfl, h.drewN q⟩
end
end Go.Proofs.YthkklojjpgjiiaaFmt
namespace Go.Proofs.YthkklojjpgjiiaaFmt
open Go.RowKit Go.Extern.Stop Go.Stop Go.Extern

section
variable {w w0 : World} {D G T S N o : Nat} {A : Option Addr} {n c off rd : Nat} {l : List UInt8} {f0 : Nat → Value} {sy bt bs : Nat → Nat}
set_option maxHeartbeats 800000 in
theorem getBits_past {T : TypeId} {f : Nat → Value} (hr : RowF w D T N f) (ho : o + 3 < N) (h3 : f (o + 3) = .int .u8 (rd : Nat)) (hrd : 64 ≤ rd) (m : Nat) (hm : m ≠ 0) :
    Calls Tryf.prog 74 #[.pointer (some ⟨D, o, none⟩), .int .u8 (m : Nat)] w fun e w' => e = .returned (.int .u16 (0 : Nat)) ∧ w = w' := by
  have q3 : w.cell? ⟨D, o + 3, none⟩ = some (.int .u8 (rd : Nat)) := hr.cellv _ (by omega) _ h3
  have hme : ((m : Int) == 0) = false := beq_eq_false_iff_ne.2 (by omega)
  have hd : decide ((64 : Int) ≤ (rd : Int)) = true := decide_eq_true (by omega)
  clear hr h3 hrd hm
  go_enter Tryf.func74, Tryf.ntmps74
  go_wp2_with fail
  go_ret
  exact ⟨rfl, rfl⟩
set_option maxRecDepth 100000 in
set_option maxHeartbeats 1600000 in
/-- a first state is read, whatever the reader says -/
theorem dcInit_of {g0 : Nat → Value} {P : World → Prop} (hG : RowF w G 167 3 g0) (hDG : D ≠ G) (lg : Nat)
    (hB : ∀ w1, Only (· = G) w w1 → Calls Tryf.prog 74 #[.pointer (some ⟨D, 514, none⟩), .int .u8 (lg : Nat)] w1 fun e w' => ∃ a, a < S ∧ e = .returned (.int .u16 (a : Nat)) ∧ P w' ∧ Only (· = D) w1 w') :
    Calls Tryf.prog 65 #[.pointer (some ⟨G, 0, none⟩), .pointer (some ⟨D, 514, none⟩), .slice (some ⟨T, 0, none⟩) S S, .int .u8 (lg : Nat)] w fun e w' => ∃ a w2, a < S ∧ e = .returned (.tuple #[]) ∧
      P w2 ∧ w' = w2.setCell ⟨G, 0, none⟩ (.int .u16 (a : Nat)) ∧ RowF w' G 167 3 (dcS D T S a) ∧ Only (fun k => k = D ∨ k = G) w w' := by
  have c2 := hG.cell 2 (by omega)
  have c1 := hG.cell 1 (by omega)
  have f2 := hG.frozen 2
  have f1 := hG.frozen 1
  have hg1 := (hG.set_ 2 (.slice (some ⟨T, 0, none⟩) S S)).set_ 1 (.pointer (some ⟨D, 514, none⟩))
  have ho1 : Only (· = G) w ((w.setCell ⟨G, 2, none⟩ (.slice (some ⟨T, 0, none⟩) S S)).setCell ⟨G, 1, none⟩ (.pointer (some ⟨D, 514, none⟩))) :=
    ((Only.refl (· = G) w).set_ (p := ⟨G, 2, none⟩) rfl _).set_ (p := ⟨G, 1, none⟩) rfl _
  have KG := Lib.hid (hB _ ho1)
  have HG1 := Lib.hid hg1
  have HO1 := Lib.hid ho1
  clear hG hg1 ho1 hB
  go_enter Tryf.func65, Tryf.ntmps65
  go_wp2_with fail
  refine KG.out.mono ?_
  rintro e w2 ⟨a, ha, rfl, hp, hon⟩
  have hg2 := hon.row HG1.out (fun e => hDG e.symm)
  have c0 := hg2.cell 0 (by omega)
  have z0 := hg2.frozen 0
  have HA := Lib.hid ha
  have HP := Lib.hid hp
  have HON := Lib.hid hon
  have HG2 := Lib.hid hg2
  clear ha hp hon hg2
  go_wp2_with fail
  refine bodyPost_end (results_none rfl _ _ _) rfl ?_
  refine ⟨a, w2, HA.out, rfl, HP.out, rfl, (HG2.out.set_ 0 (.int .u16 (a : Nat))).congr fun k hk => ?_, ((HO1.out.mono fun _ h => .inr h).trans (HON.out.mono fun _ h => .inl h)).set_ (p := ⟨G, 0, none⟩) (.inr rfl) _⟩
  unfold updV dcS
  rcases (show k = 0 ∨ k = 1 ∨ k = 2 by omega) with rfl | rfl | rfl <;> rfl
/-- a reader at its end, or gone beyond it -/
def BrAny (w : World) (D : Nat) (A : Option Addr) (n c : Nat) (l : List UInt8) (f0 : Nat → Value) (off rd : Nat) : Prop :=
  BrIn w D 98 534 514 A n c l f0 off rd w ∨ (off = 0 ∧ BrDead w D 98 534 514 A n c f0 rd w)
theorem BrIn.rd64 {T : TypeId} (h : BrIn w D T N o A n c l f0 off rd w0) : rd ≤ 64 := by
  obtain ⟨f, val, hr, hk, hs, hb, hon⟩ := h
  exact hb.2.1
theorem BrIn.onlyOther {T : TypeId} {w' : World} (h : BrIn w D T N o A n c l f0 off rd w0) {S : Nat → Prop} (ho : Only S w w') (hS : ¬ S D) : BrIn w' D T N o A n c l f0 off rd w' := by
  obtain ⟨f, val, hr, hk, hs, hb, hon⟩ := h
  exact ⟨f, val, ho.row hr hS, hk, hs, hb, Only.refl _ _⟩
theorem BrDead.onlyOther {T : TypeId} {w' : World} (h : BrDead w D T N o A n c f0 rd w0) {S : Nat → Prop} (ho : Only S w w') (hS : ¬ S D) : BrDead w' D T N o A n c f0 rd w' := by
  obtain ⟨f, val, hr, hk, hs, hb, h1, h2, hon⟩ := h
  exact ⟨f, val, ho.row hr hS, hk, hs, hb, h1, h2, Only.refl _ _⟩
set_option maxRecDepth 100000 in
/-- bits for a first state, where there are not bits enough -/
theorem getBits_short (hb : BrAny w D A n c l f0 off rd) (lg : Nat) (hlg : lg = 5 ∨ lg = 6) (hS : 2 ^ lg = S) (hsh : leftB off rd < lg ∨ 64 < rd) :
    Calls Tryf.prog 74 #[.pointer (some ⟨D, 514, none⟩), .int .u8 (lg : Nat)] w fun e w' => ∃ a, a < S ∧ e = .returned (.int .u16 (a : Nat)) ∧ (∃ rd2, rd ≤ rd2 ∧ 64 ≤ rd2 ∧ BrAny w' D A n c l f0 0 rd2) ∧ Only (· = D) w w' := by
  have hS0 : 0 < S := by rw [← hS]; exact Nat.two_pow_pos _
  rcases hb with hb | ⟨rfl, hb⟩
  · have hrd := hb.rd64
    have ho0 : off = 0 := by unfold leftB at hsh; omega
    subst ho0
    by_cases h64 : rd = 64
    · subst h64
      have H := hb
      obtain ⟨f, val, hr, hk, hs, _⟩ := hb
      refine (getBits_past hr (by omega) hs.2.2.2 (Nat.le_refl _) lg (by omega)).mono ?_
      rintro e w' ⟨rfl, rfl⟩
      exact ⟨0, hS0, rfl, ⟨64, Nat.le_refl _, Nat.le_refl _, .inl H⟩, Only.refl _ _⟩
    · refine (getBits_over hb (by omega) lg (by omega) (by unfold leftB at hsh; omega) (by omega)).mono ?_
      rintro e w' ⟨v, hv, rfl, hd⟩
      exact ⟨v, by rw [← hS]; exact hv, rfl, ⟨rd + lg, by omega, by obtain ⟨_, _, _, _, _, _, h1, _⟩ := hd; omega, .inr ⟨rfl, hd.base⟩⟩, hd.only⟩
  · have H := hb
    obtain ⟨f, val, hr, hk, hs, hv, h1, h2, hon⟩ := hb
    refine (getBits_past hr (by omega) hs.2.2.2 (by omega) lg (by omega)).mono ?_
    rintro e w' ⟨rfl, rfl⟩
    exact ⟨0, hS0, rfl, ⟨rd, Nat.le_refl _, by omega, .inr ⟨rfl, H⟩⟩, Only.refl _ _⟩
end
end Go.Proofs.YthkklojjpgjiiaaFmt
