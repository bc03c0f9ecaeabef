/-
  What it says that a slice of bytes reads as a list, and that this stays so: plain lemmas, no conditions of their own.
  A slice of bytes that came in reads as a list of bytes. Condition: what the row's frame says of it.
  Bits of bytes, forwards: plain lemmas, and the walks of spec.zBit, spec.zLog, spec.zFore.read. Conditions: those of each.
  Whole structs stored and loaded, and results that are struct variables: laws for a walk. Conditions: the row is known whole.
-/
import Derived.WalkKit
import Derived.WalkSpells
import Derived.WalkLawsBesides
import Derived.Deep.QuietTactic
import Derived.BigQuiet
import Derived.Lib.Hide
import Derived.Lib.EndianBits
import Derived.Deep.Draws
import Derived.Lib.Endian
import Derived.Laws.World
import Derived.Test.YthkklojjpgjiiaaFmtRows
import Derived.Outline
import Derived.Laws.Tables
import Derived.Laws.Rows
import Derived.Below
namespace Go.Proofs.YthkklojjpgjiiaaFmt
open Go.RowKit

/-- The slice of address A, length n, capacity c reads as the bytes l, and lies below block B. -/
def Sl (w : World) (B : Nat) (A : Option Addr) (n c : Nat) (l : List UInt8) : Prop :=
  l.length = n ∧ n ≤ c ∧ c ≤ maxLen ∧ (n = 0 ∨ ∃ g o, A = some ⟨g, o, none⟩ ∧ g < B ∧ ∀ j (h : j < l.length), w.cell? ⟨g, o + j, none⟩ = some (.int .u8 (l[j]).toNat))

section
variable {w w' : World} {B B' : Nat} {A : Option Addr} {n c : Nat} {l : List UInt8}

theorem Sl.len (h : Sl w B A n c l) : l.length = n := h.1
theorem Sl.cap (h : Sl w B A n c l) : n ≤ c := h.2.1
theorem Sl.most (h : Sl w B A n c l) : c ≤ 9223372036854775807 := h.2.2.1
theorem Sl.nil (w : World) (B : Nat) : Sl w B none 0 0 [] := ⟨rfl, Nat.le_refl _, by unfold maxLen; omega, .inl rfl⟩
theorem Sl.at_ (h : Sl w B A n c l) (hn : 0 < n) : ∃ g o, A = some ⟨g, o, none⟩ ∧ g < B ∧ ∀ j (h : j < l.length), w.cell? ⟨g, o + j, none⟩ = some (.int .u8 (l[j]).toNat) := by
  rcases h.2.2.2 with e | e
  · omega
  · exact e
theorem Sl.keep (h : Sl w B A n c l) (hk : ∀ b o, b < B → w'.cell? ⟨b, o, none⟩ = w.cell? ⟨b, o, none⟩) : Sl w' B A n c l := by
  refine ⟨h.1, h.2.1, h.2.2.1, ?_⟩
  rcases h.2.2.2 with e | ⟨g, o, e, hb, hc⟩
  · exact .inl e
  · exact .inr ⟨g, o, e, hb, fun j hj => (hk g (o + j) hb).trans (hc j hj)⟩
theorem Sl.more (h : Sl w B A n c l) (hB : B ≤ B') : Sl w B' A n c l := by
  refine ⟨h.1, h.2.1, h.2.2.1, ?_⟩
  rcases h.2.2.2 with e | ⟨g, o, e, hb, hc⟩
  · exact .inl e
  · exact .inr ⟨g, o, e, by omega, hc⟩
theorem Sl.below (h : Sl w B A n c l) (hb : Below B w w') : Sl w' B A n c l := h.keep fun b o hp => hb.cell (p := ⟨b, o, none⟩) hp
theorem Sl.drew (h : Sl w B A n c l) : Sl w.drew B A n c l := h
theorem Sl.drewN (h : Sl w B A n c l) (k : Nat) : Sl (w.drewN k) B A n c l := h
theorem Sl.alloc (h : Sl w B A n c l) (hB : B ≤ w.heap.size) (o : Obj) : Sl (w.alloc o) B A n c l := h.keep fun b o' hp => World.cell?_alloc_lt w o ⟨b, o', none⟩ (by exact Nat.lt_of_lt_of_le hp hB)
theorem Sl.setCell (h : Sl w B A n c l) {p : Addr} (hB : B ≤ p.block) (u : Value) : Sl (w.setCell p u) B A n c l :=
  h.keep fun b o hq => World.cell?_setCell_other w p ⟨b, o, none⟩ u (fun e => by subst e; exact absurd hB (Nat.not_le.2 hq))
theorem Sl.grown (h : Sl w B A n c l) {row : Option Nat} (hg : w.grownBy w' row) (hB : B ≤ w.heap.size) (hr : ∀ g, row = some g → B ≤ g) : Sl w' B A n c l :=
  h.keep fun b o hp => World.cell?_of_block (a := ⟨b, o, none⟩) (hg.block b (by omega) (fun e => by have := hr _ e.symm; omega))

theorem add_some (g o k : Nat) : (⟨g, o, none⟩ : Addr).add k = ⟨g, o + k, none⟩ := by
  unfold Addr.add
  split
  · subst_vars; rfl
  · rfl

/-- s[i:j], the capacity whatever it is then -/
theorem Sl.cut (h : Sl w B A n c l) {i j c' : Nat} (A' : Option Addr) (hij : i ≤ j) (hj : j ≤ n) (hc1 : j - i ≤ c') (hc2 : c' ≤ c)
    (hA : i < j → A' = A.map (·.add i)) : Sl w B A' (j - i) c' ((l.take j).drop i) := by
  have hl := h.1
  refine ⟨by simp; omega, hc1, Nat.le_trans hc2 h.2.2.1, ?_⟩
  rcases Nat.eq_or_lt_of_le hij with e | e
  · exact .inl (by omega)
  · rcases h.2.2.2 with e' | ⟨g, o, e', hb, hc⟩
    · omega
    · refine .inr ⟨g, o + i, ?_, hb, fun k hk => ?_⟩
      · rw [hA e, e']
        simp [add_some]
      · simp at hk
        have := hc (i + k) (by omega)
        rw [← Nat.add_assoc] at this
        rw [this]
        simp
end
end Go.Proofs.YthkklojjpgjiiaaFmt
namespace Go.Proofs.YthkklojjpgjiiaaFmt
open Go.RowKit

theorem u8_of_wf {z : Int} (h : (Lit.int .u8 z).wf = true) : 0 ≤ z ∧ z ≤ 255 := by
  have e1 : IntKind.u8.min = 0 := rfl
  have e2 : IntKind.u8.max = 255 := rfl
  simpa [Lit.wf, e1, e2] using h

def toB (z : Int) : UInt8 := z.toNat.toUInt8
theorem toB_nat {z : Int} (h : 0 ≤ z ∧ z ≤ 255) : ((toB z).toNat : Int) = z := by
  unfold toB
  have : (z.toNat.toUInt8).toNat = z.toNat % 256 := by simp [Nat.toUInt8, UInt8.toNat_ofNat']
  rw [this]
  omega

theorem sl_of_row {w : World} {a : Option Addr} {len cap : Nat} {zs : List Int}
    (h : (a = none ∧ len = 0 ∧ cap = 0 ∧ zs = []) ∨
      ∃ x, a = some x ∧ len ≤ cap ∧ cap ≤ maxLen ∧ zs.length = cap ∧ (∀ i, i < zs.length → w.cell? (x.add i) = some (.int .u8 (zs.getD i 0))) ∧ ∀ n ∈ zs, (Lit.int .u8 n).wf = true) :
    ∃ l, Sl w w.heap.size a len cap l := by
  rcases h with ⟨rfl, rfl, rfl, rfl⟩ | ⟨x, rfl, hl, hm, hz, hc, hw⟩
  · exact ⟨[], Sl.nil _ _⟩
  · refine ⟨(zs.take len).map toB, by simp; omega, hl, hm, ?_⟩
    rcases Nat.eq_zero_or_pos len with e | e
    · exact .inl e
    · obtain ⟨g, o, s⟩ := x
      have h0 := hc 0 (by omega)
      have hs : s = none := by simpa [Addr.add] using World.cell?_spot h0
      subst hs
      have hb : g < w.heap.size := by simpa [Addr.add] using World.block_lt_of_cell? _ _ h0
      refine .inr ⟨g, o, rfl, hb, fun j hj => ?_⟩
      simp at hj
      have hj' : j < zs.length := by omega
      have := hc j hj'
      rw [add_some] at this
      rw [this]
      have hmem : zs[j] ∈ zs := List.getElem_mem hj'
      have hz := toB_nat (u8_of_wf (hw _ hmem))
      simp [List.getD_eq_getElem?_getD, List.getElem?_eq_getElem hj', hz]
end Go.Proofs.YthkklojjpgjiiaaFmt
namespace Go.Proofs.YthkklojjpgjiiaaFmt
open Go.RowKit

/-- a bit of bytes; false beyond them -/
def bitAt (l : List UInt8) (i : Nat) : Nat := (l.getD (i / 8) 0).toNat / 2 ^ (i % 8) % 2

theorem and1_shift (v r : Nat) (hv : v < 256) : bits .and .i64 (wrap64 ((v : Int) / 2 ^ r)) 1 = ((v / 2 ^ r % 2 : Nat) : Int) := by
  have h : ∀ x : Fin 256, bits .and .i64 (x.val : Int) 1 = ((x.val % 2 : Nat) : Int) := by decide +kernel
  have hx : v / 2 ^ r < 256 := Nat.lt_of_le_of_lt (Nat.div_le_self _ _) hv
  have hc : (v : Int) / 2 ^ r = ((v / 2 ^ r : Nat) : Int) := by simp
  rw [hc]
  generalize v / 2 ^ r = x at hx
  have hw : wrap64 (x : Int) = (x : Int) := by unfold wrap64; omega
  rw [hw]
  exact h ⟨x, hx⟩

set_option maxRecDepth 100000 in
set_option maxHeartbeats 1600000 in
theorem zBit_in {w : World} {B : Nat} {A : Option Addr} {n c : Nat} {l : List UInt8} (hs : Sl w B A n c l) (at_ : Int) (i : Nat) (hi : at_ = i) (hlt : i < 8 * l.length) (hn : n ≤ 1000000) :
    Calls Tryf.prog 54 #[.slice A n c, .int .i64 at_] w fun e w' => e = .returned (.int .i64 (bitAt l i)) ∧ w = w' := by
  obtain rfl := hs.len
  obtain ⟨g, o, rfl, _, hc⟩ := hs.at_ (by omega)
  obtain ⟨k, hk⟩ : ∃ k, i / 8 = k := ⟨_, rfl⟩
  obtain ⟨r, hr⟩ : ∃ r, i % 8 = r := ⟨_, rfl⟩
  have hr8 : r < 8 := by omega
  have hkl : k < l.length := by omega
  have kk := hc k hkl
  obtain ⟨v, hv⟩ : ∃ v, (l[k]'hkl).toNat = v := ⟨_, rfl⟩
  rw [hv] at kk
  have HV : Hid (v < 256) := Lib.hid (by rw [← hv]; exact UInt8.toNat_lt _)
  have hm := hs.most
  have hcc := hs.cap
  have hki : (k : Int) < (l.length : Int) := by omega
  have d1 : decide (at_ < 0) = false := decide_eq_false (by omega)
  have d2 : decide (8 * (l.length : Int) ≤ at_) = false := decide_eq_false (by omega)
  have e1 : IntKind.i64.wrap (at_ / 8) = (k : Int) := by rw [IntKind.wrap_i64]; omega
  have e2 : IntKind.i64.wrap (at_ % 8) = (r : Int) := by rw [IntKind.wrap_i64]; omega
  have e1' : IntKind.i64.wrap (at_.tdiv 8) = (k : Int) := by rw [Int.tdiv_eq_ediv_of_nonneg (by omega)]; exact e1
  have e2' : at_.tmod 8 = (r : Int) := by rw [Int.tmod_eq_emod_of_nonneg (by omega)]; omega
  have e2'' : at_ % 8 = (r : Int) := by omega
  have hat : 0 ≤ at_ := by omega
  have HB : Hid (bitAt l i = v / 2 ^ r % 2) := Lib.hid (by unfold bitAt; rw [hk, hr, List.getD_eq_getElem?_getD, List.getElem?_eq_getElem hkl, Option.getD_some, hv])
  clear hi hk hr hv hc hs hlt
  go_enter Tryf.func54, Tryf.ntmps54
  go_wp2_with fail
  go_ret
  refine ⟨?_, rfl⟩
  rw [HB.out, ← and1_shift v r HV.out]
  rfl

set_option maxRecDepth 100000 in
set_option maxHeartbeats 1600000 in
theorem zBit_out {w : World} {B : Nat} {A : Option Addr} {n c : Nat} {l : List UInt8} (hs : Sl w B A n c l) (at_ : Int) (h : at_ < 0 ∨ 8 * (l.length : Int) ≤ at_) (hn : n ≤ 1000000) :
    Calls Tryf.prog 54 #[.slice A n c, .int .i64 at_] w fun e w' => e = .returned (.int .i64 0) ∧ w = w' := by
  obtain rfl := hs.len
  have hm := hs.most
  have hcc := hs.cap
  by_cases h0 : at_ < 0
  · have d1 : decide (at_ < 0) = true := decide_eq_true h0
    clear h hs
    go_enter Tryf.func54, Tryf.ntmps54
    go_wp2_with fail
    go_ret
    exact ⟨rfl, rfl⟩
  · have d1 : decide (at_ < 0) = false := decide_eq_false h0
    have d2 : decide (8 * (l.length : Int) ≤ at_) = true := decide_eq_true (by omega)
    clear h hs
    go_enter Tryf.func54, Tryf.ntmps54
    go_wp2_with fail
    go_ret
    exact ⟨rfl, rfl⟩
end Go.Proofs.YthkklojjpgjiiaaFmt
namespace Go.Proofs.YthkklojjpgjiiaaFmt
open Go.RowKit

theorem Sl.next {w : World} {B g o n c : Nat} {l : List UInt8} (h : Sl w B (some ⟨g, o, none⟩) n c l) (i : Nat) (hi : i ≤ n) :
    Sl w B (if c = i then some ⟨g, o, none⟩ else some ⟨g, o + i, none⟩) (n - i) (c - i) (l.drop i) := by
  have hc := h.cap
  have hl := h.len
  have := h.cut (if c = i then some ⟨g, o, none⟩ else some ⟨g, o + i, none⟩) (i := i) (j := n) (c' := c - i) hi (Nat.le_refl _) (by omega) (by omega)
    (fun hlt => by rw [if_neg (by omega)]; simp [add_some])
  rwa [List.take_of_length_le (by omega)] at this
theorem Sl.nextA {w : World} {B n c : Nat} {A : Option Addr} {l : List UInt8} (h : Sl w B A n c l) (i : Nat) (hi : i ≤ n) :
    Sl w B (if c = i then A else Option.map (fun x => x.add i) A) (n - i) (c - i) (l.drop i) := by
  have hc := h.cap
  have hl := h.len
  have := h.cut (if c = i then A else Option.map (fun x => x.add i) A) (i := i) (j := n) (c' := c - i) hi (Nat.le_refl _) (by omega) (by omega)
    (fun hlt => by rw [if_neg (by omega)])
  rwa [List.take_of_length_le (by omega)] at this
theorem Sl.first {w : World} {B n c : Nat} {A : Option Addr} {l : List UInt8} (h : Sl w B A n c l) (i : Nat) (hi : i ≤ n) : Sl w B A i c (l.take i) := by
  have hc := h.cap
  have := h.cut A (i := 0) (j := i) (c' := c) (by omega) hi (by omega) (by omega) (fun h0 => by
    obtain ⟨g1, o1, rfl, _⟩ := h.at_ (by omega)
    simp [add_some])
  simpa using this
theorem alloc2_facts {wa : World} {C : Nat} (hC : wa.heap.size = C) (x y : Obj) :
    ((wa.alloc x).alloc y).heap[C]? = some x ∧ ((wa.alloc x).alloc y).heap[C + 1]? = some y ∧ (∀ k, k < C → ((wa.alloc x).alloc y).heap[k]? = wa.heap[k]?) ∧ Below C wa ((wa.alloc x).alloc y) := by
  subst hC
  have h1 : (wa.alloc x).heap.size = wa.heap.size + 1 := Array.size_push ..
  refine ⟨heap_alloc2_old .., heap_alloc2_new .., fun k hk => ?_, ?_⟩
  · exact (Below.heap_alloc (wa.alloc x) y k (by omega)).trans (Below.heap_alloc wa x k hk)
  · exact ((Below.refl _ wa).alloc (Nat.le_refl _) _).alloc (by omega) _

section
variable {P : Program}
theorem results_cell_tmp_row {fn : Func} {p u : Tmp} {ty : TypeId} (h : fn.results = #[.cell p ty, .tmp u]) (tmps : Array Value) (w : World) (g : Nat) (t : TypeId) (cs : Array Value) (fr : Nat × Nat) (d : TypeDesc)
    (hp : tmps.getD p undef = .pointer (some ⟨g, 0, none⟩)) (hg : w.heap[g]? = some (.cells cs t fr))
    (hu : P.underlying ty = some d) (hd : (match d with | .struct _ | .array _ _ => true | _ => false) = true) (hi : (P.info? ty).map (·.size) = some cs.size) :
    (results fn tmps).run P w = .ok (.tuple #[.agg cs, tmps.getD u undef]) w := by
  have hp' : tmps[p]?.getD undef = .pointer (some ⟨g, 0, none⟩) := by simpa using hp
  simp [results, h, hp', asAddr, run_loadVar_row w g t ty cs fr d hg hu hd hi]
theorem results_cell_tmp2_row {fn : Func} {p u v : Tmp} {ty : TypeId} (h : fn.results = #[.cell p ty, .tmp u, .tmp v]) (tmps : Array Value) (w : World) (g : Nat) (t : TypeId) (cs : Array Value) (fr : Nat × Nat) (d : TypeDesc)
    (hp : tmps.getD p undef = .pointer (some ⟨g, 0, none⟩)) (hg : w.heap[g]? = some (.cells cs t fr))
    (hu : P.underlying ty = some d) (hd : (match d with | .struct _ | .array _ _ => true | _ => false) = true) (hi : (P.info? ty).map (·.size) = some cs.size) :
    (results fn tmps).run P w = .ok (.tuple #[.agg cs, tmps.getD u undef, tmps.getD v undef]) w := by
  have hp' : tmps[p]?.getD undef = .pointer (some ⟨g, 0, none⟩) := by simpa using hp
  simp [results, h, hp', asAddr, run_loadVar_row w g t ty cs fr d hg hu hd hi]

/-- a whole struct is stored: what is known behind it -/
theorem wpList_store_all {ops : Array Oper} {rest : List Oper} {o : Oper} {a : Act} {w : World} {Q : Exit → Act → World → Prop} (hgd : o.guard = none) (ty : TypeId) (x y : Operand) (ho : o.op = .store ty x y)
    (g : Nat) (cells : Array Value) (hx : a.eval x = .pointer (some ⟨g, 0, none⟩)) (hy : a.eval y = .agg cells)
    (t : TypeId) (old : Array Value) (hg : Hid (w.heap[g]? = some (.cells old t (0, 0)))) (hi : (P.info? ty).map (·.size) = some cells.size)
    (hold : old.size = cells.size) (h1 : cells.all (·.oneCell') = true) (B : Nat) (hB : B ≤ g)
    (h : ∀ w', Hid (w'.heap[g]? = some (.cells cells t (0, 0))) → Below B w w' → Hid (∀ k, k ≠ g → w'.heap[k]? = w.heap[k]?) → wpList P ops Q rest (a.put o.dst undef) w') : wpList P ops Q (o :: rest) a w := by
  refine wpList_store_row hgd ty x y ho g cells hx hy t old hg.out hi hold h1 ?_
  refine h _ (Lib.hid ?_) ?_ (Lib.hid fun k hk => ?_)
  · simpa using setRow_heap w g _ _ t (0, 0) hg.out
  · exact ⟨rfl, rfl, rfl, by simp [World.setRow], fun k hk => setRow_other w g k cells (by omega)⟩
  · exact setRow_other w g k cells hk
end
end Go.Proofs.YthkklojjpgjiiaaFmt
