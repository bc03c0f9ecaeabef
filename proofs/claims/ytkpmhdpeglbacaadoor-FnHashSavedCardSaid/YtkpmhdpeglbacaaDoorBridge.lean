/-
  A slice of bytes that came in reads as a list of bytes. Condition: what the row's frame says of it.
-/
import Derived.Test.YtkpmhdpeglbacaaDoorSl
import Derived.Laws.World
namespace Go.Proofs.YtkpmhdpeglbacaaDoor
open Go.RowKit

theorem u8_of_wf {z : Int} (h : (Lit.int .u8 z).wf = true) : 0 ≤ z ∧ z ≤ 255 := by
  have e1 : IntKind.u8.min = 0 := rfl
  have e2 : IntKind.u8.max = 255 := rfl
  simpa [Lit.wf, e1, e2] using h

def toB (z : Int) : UInt8 := z.toNat.toUInt8
theorem toB_nat {z : Int} (h : 0 ≤ z ∧ z ≤ 255) : ((toB z).toNat : Int) = z := by
  unfold toB
  have : (z.toNat.toUInt8).toNat = z.toNat % 256 := by simp [Nat.toUInt8, UInt8.toNat_ofNat']
  rw [this]
  omega

theorem sl_of_row {w : World} {a : Option Addr} {len cap : Nat} {zs : List Int}
    (h : (a = none ∧ len = 0 ∧ cap = 0 ∧ zs = []) ∨
      ∃ x, a = some x ∧ len ≤ cap ∧ cap ≤ maxLen ∧ zs.length = cap ∧ (∀ i, i < zs.length → w.cell? (x.add i) = some (.int .u8 (zs.getD i 0))) ∧ ∀ n ∈ zs, (Lit.int .u8 n).wf = true) :
    ∃ l, Sl w w.heap.size a len cap l := by
  rcases h with ⟨rfl, rfl, rfl, rfl⟩ | ⟨x, rfl, hl, hm, hz, hc, hw⟩
  · exact ⟨[], Sl.nil _ _⟩
  · refine ⟨(zs.take len).map toB, by simp; omega, hl, hm, ?_⟩
    rcases Nat.eq_zero_or_pos len with e | e
    · exact .inl e
    · obtain ⟨g, o, s⟩ := x
      have h0 := hc 0 (by omega)
      have hs : s = none := by simpa [Addr.add] using World.cell?_spot h0
      subst hs
      have hb : g < w.heap.size := by simpa [Addr.add] using World.block_lt_of_cell? _ _ h0
      refine .inr ⟨g, o, rfl, hb, fun j hj => ?_⟩
      simp at hj
      have hj' : j < zs.length := by omega
      have := hc j hj'
      rw [add_some] at this
      rw [this]
      have hmem : zs[j] ∈ zs := List.getElem_mem hj'
      have hz := toB_nat (u8_of_wf (hw _ hmem))
      simp [List.getD_eq_getElem?_getD, List.getElem?_eq_getElem hj', hz]
end Go.Proofs.YtkpmhdpeglbacaaDoor
