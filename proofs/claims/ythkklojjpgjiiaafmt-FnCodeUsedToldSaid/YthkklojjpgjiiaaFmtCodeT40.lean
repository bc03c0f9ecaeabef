/-
  impl.counts: the numbers of symbols in a new array. Conditions: those of the theorem.
-/
import Derived.Test.YthkklojjpgjiiaaFmtCodeT38
import Derived.Test.YthkklojjpgjiiaaFmtCodeT39
namespace Go.Proofs.YthkklojjpgjiiaaFmt
open Go.RowKit

theorem zero_256 : Tryf.zeroCells40 = Array.replicate 256 (.int .u32 0) := by kernel_rfl
/-- cell k of the counts of a list, once the positions below m are told -/
def cntV (l : List Nat) (m : Nat) (k : Nat) : Value := .int .u32 ((if k < m then cntL l k else 0 : Nat) : Nat)
set_option maxRecDepth 100000 in
set_option maxHeartbeats 1600000 in
theorem counts_any {w : World} {B : Nat} {A : Option Addr} {n c : Nat} {l : List Nat} (hs : Sw w B A n c l) (hB : B ≤ w.heap.size) (hn : n ≤ 2147483647) :
    Calls Tryf.prog 11 #[.slice A n c] w fun e w' => e = .returned (.pointer (some ⟨w.heap.size, 0, none⟩)) ∧ RowF w' w.heap.size 40 256 (cntV l n) ∧ Below w.heap.size w w' := by
  have HS := Lib.hid hs
  have HL := Lib.hid hs.2.2.2.1
  clear hs
  go_enter Tryf.func11, Tryf.ntmps11
  go_upto_region 2 with fail
  have hR : RowF (w.alloc (.cells Tryf.zeroCells40 40)) w.heap.size 40 256 (cntV l 0) := by
    refine ⟨_, heap_alloc_new _ _, by rw [zero_256]; simp, fun k hk => ?_⟩
    rw [zero_256, Array.getElem?_replicate, if_pos hk]
    rfl
  have hBl := below_new w (.cells Tryf.zeroCells40 40)
  have hS2 := HS.out.below (hBl.mono hB)
  generalize hw1 : World.alloc w _ = w1 at hR hBl hS2 ⊢
  obtain ⟨g, hg⟩ : ∃ g, w.heap.size = g := ⟨_, rfl⟩
  rw [hg] at hR hBl hB ⊢
  have HR := Lib.hid hR
  have HBL := Lib.hid hBl
  have HS2 := Lib.hid hS2
  have HG := Lib.hid hg
  clear hR hBl hS2 hw1 hg
  go_wp2_with fail
  go_loopw [10] (fun iv wr => ∃ (i : Nat), i ≤ n ∧ iv = .int .i64 (i : Nat) ∧ RowF wr g 40 256 (cntV l i) ∧ Below g w wr) (fun iv _ => n - (intOf iv).toNat)
  case atStart => exact ⟨0, Nat.zero_le _, rfl, HR.out, HBL.out⟩
  case round =>
    obtain ⟨i, hi, rfl, hR, hBl⟩ := hrel
    have hl1 := hR.lt
    by_cases hin : i < n
    · obtain ⟨g1, o1, hA, hgB, hc⟩ := (HS.out.below (hBl.mono hB)).at_ (by omega)
      have hci := hc i hin
      have hx := HL.out i
      obtain ⟨x, hxe⟩ : ∃ x, l.getD i 0 = x := ⟨_, rfl⟩
      rw [hxe] at hci hx
      subst hA
      clear hc
      by_cases h256 : (i : Int) < 256
      · have hd : decide ((i : Int) < 256) = true := decide_eq_true h256
        have k0 := hR.cell i (by omega)
        have z0 := hR.frozen i
        have hR2 := (hR.set_ i (.int .u32 (x : Nat))).congr (f' := cntV l (i + 1)) fun k hk => by
          unfold updV cntV
          by_cases e : k = i
          · subst e
            rw [if_pos rfl, if_pos (by omega)]
            unfold cntL
            rw [if_pos (by omega), hxe]
          · rw [if_neg e]
            by_cases e2 : k < i
            · rw [if_pos e2, if_pos (by omega)]
            · rw [if_neg e2, if_neg (by omega)]
        have hB2 := hBl.setCell (p := ⟨g, i, none⟩) (Nat.le_refl _) (.int .u32 (x : Nat))
        have HR2 := Lib.hid hR2
        have HB2 := Lib.hid hB2
        clear hR hBl hR2 hB2 hxe
        go_wp2_with fail
        refine ⟨⟨i + 1, by omega, by go_num, HR2.out, HB2.out⟩, by simp [intOf]; omega⟩
      · have hd : decide ((i : Int) < 256) = false := decide_eq_false h256
        have hR2 := hR.congr (f' := cntV l (i + 1)) fun k hk => by
          unfold cntV
          rw [if_pos (by omega), if_pos (by omega)]
        have HR2 := Lib.hid hR2
        have HB2 := Lib.hid hBl
        clear hR hBl hR2 hxe
        go_wp2_with fail
        refine ⟨⟨i + 1, by omega, by go_num, HR2.out, HB2.out⟩, by simp [intOf]; omega⟩
    · obtain rfl : n = i := by omega
      have HR2 := Lib.hid hR
      have HB2 := Lib.hid hBl
      clear hR hBl
      go_wp2_with fail
      go_ret
      rw [HG.out]
      exact ⟨rfl, HR2.out, HB2.out⟩
end Go.Proofs.YthkklojjpgjiiaaFmt
