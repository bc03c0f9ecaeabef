/-
  What it says that a slice of bytes reads as a list, and that this stays so: plain lemmas, no conditions of their own.
-/
import Derived.WalkKit
import Derived.WalkSpells
import Derived.WalkLawsBesides
import Derived.Deep.QuietTactic
import Derived.BigQuiet
import Derived.Lib.Hide
import Derived.Lib.EndianBits
import Derived.Deep.Draws
import Derived.Lib.Endian
namespace Go.Proofs.YtiobfiepapflaaaDoor
open Go.RowKit

/-- The slice of address A, length n, capacity c reads as the bytes l, and lies below block B. -/
def Sl (w : World) (B : Nat) (A : Option Addr) (n c : Nat) (l : List UInt8) : Prop :=
  l.length = n ∧ n ≤ c ∧ c ≤ maxLen ∧ (n = 0 ∨ ∃ g o, A = some ⟨g, o, none⟩ ∧ g < B ∧ ∀ j (h : j < l.length), w.cell? ⟨g, o + j, none⟩ = some (.int .u8 (l[j]).toNat))

section
variable {w w' : World} {B B' : Nat} {A : Option Addr} {n c : Nat} {l : List UInt8}

theorem Sl.len (h : Sl w B A n c l) : l.length = n := h.1
theorem Sl.cap (h : Sl w B A n c l) : n ≤ c := h.2.1
theorem Sl.most (h : Sl w B A n c l) : c ≤ 9223372036854775807 := h.2.2.1
theorem Sl.nil (w : World) (B : Nat) : Sl w B none 0 0 [] := ⟨rfl, Nat.le_refl _, by unfold maxLen; omega, .inl rfl⟩
theorem Sl.at_ (h : Sl w B A n c l) (hn : 0 < n) : ∃ g o, A = some ⟨g, o, none⟩ ∧ g < B ∧ ∀ j (h : j < l.length), w.cell? ⟨g, o + j, none⟩ = some (.int .u8 (l[j]).toNat) := by
  rcases h.2.2.2 with e | e
  · omega
  · exact e
theorem Sl.keep (h : Sl w B A n c l) (hk : ∀ b o, b < B → w'.cell? ⟨b, o, none⟩ = w.cell? ⟨b, o, none⟩) : Sl w' B A n c l := by
  refine ⟨h.1, h.2.1, h.2.2.1, ?_⟩
  rcases h.2.2.2 with e | ⟨g, o, e, hb, hc⟩
  · exact .inl e
  · exact .inr ⟨g, o, e, hb, fun j hj => (hk g (o + j) hb).trans (hc j hj)⟩
theorem Sl.more (h : Sl w B A n c l) (hB : B ≤ B') : Sl w B' A n c l := by
  refine ⟨h.1, h.2.1, h.2.2.1, ?_⟩
  rcases h.2.2.2 with e | ⟨g, o, e, hb, hc⟩
  · exact .inl e
  · exact .inr ⟨g, o, e, by omega, hc⟩
theorem Sl.below (h : Sl w B A n c l) (hb : Below B w w') : Sl w' B A n c l := h.keep fun b o hp => hb.cell (p := ⟨b, o, none⟩) hp
theorem Sl.drew (h : Sl w B A n c l) : Sl w.drew B A n c l := h
theorem Sl.drewN (h : Sl w B A n c l) (k : Nat) : Sl (w.drewN k) B A n c l := h
theorem Sl.alloc (h : Sl w B A n c l) (hB : B ≤ w.heap.size) (o : Obj) : Sl (w.alloc o) B A n c l := h.keep fun b o' hp => World.cell?_alloc_lt w o ⟨b, o', none⟩ (by exact Nat.lt_of_lt_of_le hp hB)
theorem Sl.setCell (h : Sl w B A n c l) {p : Addr} (hB : B ≤ p.block) (u : Value) : Sl (w.setCell p u) B A n c l :=
  h.keep fun b o hq => World.cell?_setCell_other w p ⟨b, o, none⟩ u (fun e => by subst e; exact absurd hB (Nat.not_le.2 hq))
theorem Sl.grown (h : Sl w B A n c l) {row : Option Nat} (hg : w.grownBy w' row) (hB : B ≤ w.heap.size) (hr : ∀ g, row = some g → B ≤ g) : Sl w' B A n c l :=
  h.keep fun b o hp => World.cell?_of_block (a := ⟨b, o, none⟩) (hg.block b (by omega) (fun e => by have := hr _ e.symm; omega))

theorem add_some (g o k : Nat) : (⟨g, o, none⟩ : Addr).add k = ⟨g, o + k, none⟩ := by
  unfold Addr.add
  split
  · subst_vars; rfl
  · rfl

/-- s[i:j], the capacity whatever it is then -/
theorem Sl.cut (h : Sl w B A n c l) {i j c' : Nat} (A' : Option Addr) (hij : i ≤ j) (hj : j ≤ n) (hc1 : j - i ≤ c') (hc2 : c' ≤ c)
    (hA : i < j → A' = A.map (·.add i)) : Sl w B A' (j - i) c' ((l.take j).drop i) := by
  have hl := h.1
  refine ⟨by simp; omega, hc1, Nat.le_trans hc2 h.2.2.1, ?_⟩
  rcases Nat.eq_or_lt_of_le hij with e | e
  · exact .inl (by omega)
  · rcases h.2.2.2 with e' | ⟨g, o, e', hb, hc⟩
    · omega
    · refine .inr ⟨g, o + i, ?_, hb, fun k hk => ?_⟩
      · rw [hA e, e']
        simp [add_some]
      · simp at hk
        have := hc (i + k) (by omega)
        rw [← Nat.add_assoc] at this
        rw [this]
        simp
end
end Go.Proofs.YtiobfiepapflaaaDoor
