/-
  spec.IsPlain, spec.zLower, spec.SameLetters. Conditions: those of each theorem.
-/
import Derived.Test.YtodbncgamjkmmaaDoorRows
import Derived.Test.YtodbncgamjkmmaaDoorSl
import Derived.Laws.IdiomStrings
import Derived.Laws.Rows
import Derived.Outline
namespace Go.Proofs.YtodbncgamjkmmaaDoor
open Go.RowKit

/-- the bytes of a text -/
def strB (s : ByteArray) : List UInt8 := s.data.toList
theorem strB_length (s : ByteArray) : (strB s).length = s.size := by rw [strB, Array.length_toList]; rfl
def plainB (l : List UInt8) : Bool := l.all fun b => decide (b.toNat ≤ 127)
def lowB (b : UInt8) : UInt8 := if 65 ≤ b.toNat ∧ b.toNat ≤ 90 then b + 32 else b
def lowL (l : List UInt8) : List UInt8 := l.map lowB
def mkS (l : List UInt8) : ByteArray := ⟨l.toArray⟩

set_option maxHeartbeats 800000 in
theorem isPlain_any (s : ByteArray) (w : World) (hs : s.size ≤ 2147483647) :
    Calls Tryd.prog 4 #[.string s] w fun e w' => e = .returned (.bool (plainB (strB s))) ∧ w = w' := by
  go_enter Tryd.func4, Tryd.ntmps4
  go_wp2
  go_loop [6] (fun i => ∃ k : Nat, k ≤ s.size ∧ i = .int .i64 k ∧ Hid (plainB ((strB s).take k) = true)) (fun i => s.size - (intOf i).toNat)
  case atStart => exact ⟨0, Nat.zero_le _, rfl, Lib.hid rfl⟩
  case round =>
    obtain ⟨k, hk, rfl, HP⟩ := hrel
    by_cases hlt : k < s.size
    · have hl : k < (strB s).length := by rw [strB_length]; exact hlt
      have hsn : (strB s).take (k + 1) = (strB s).take k ++ [s[k]] := by rw [List.take_succ_eq_append_getElem hl]; rfl
      by_cases hb : s[k].toNat ≤ 127
      · have HN : Hid (plainB ((strB s).take (k + 1)) = true) := Lib.hid (by rw [hsn]; unfold plainB; rw [List.all_append]; have := HP.out; unfold plainB at this; rw [this]; simp [hb])
        clear hsn
        go_wp2
        go_round
        case rel => exact ⟨k + 1, by omega, by go_num, HN⟩
        case measure => simp [intOf]; omega
      · have HN : Hid (plainB (strB s) = false) := Lib.hid (by
          unfold plainB
          rw [List.all_eq_false]
          exact ⟨s[k], List.getElem_mem hl, by simpa using hb⟩)
        clear hsn
        go_wp2
        go_ret
        exact ⟨by rw [HN.out]; rfl, rfl⟩
    · obtain rfl : k = s.size := by omega
      have HN : Hid (plainB (strB s) = true) := Lib.hid (by have := HP.out; rwa [List.take_of_length_le (by rw [strB_length]; exact Nat.le_refl _)] at this)
      go_wp2
      go_ret
      exact ⟨by rw [HN.out]; rfl, rfl⟩

/-- block g holds the bytes m, and something behind them -/
def RowZ (w : World) (g : Nat) (m : List UInt8) (Z : Array Value) (fr : Nat × Nat) : Prop := w.heap[g]? = some (.cells ((Lib.byteCells m).toArray ++ Z) 5 fr)
theorem RowZ.cell {w : World} {g : Nat} {m : List UInt8} {Z : Array Value} {fr : Nat × Nat} (h : RowZ w g m Z fr) (k : Nat) (hk : k < m.length) : w.cell? ⟨g, k, none⟩ = some (.int .u8 (m[k]).toNat) := by
  rw [cell_of_row w g k _ _ fr h, Array.getElem?_append_left (by simpa [Lib.byteCells] using hk)]
  simp [Lib.byteCells, hk]
theorem RowZ.free {w : World} {g : Nat} {m : List UInt8} {Z : Array Value} {fr : Nat × Nat} (h : RowZ w g m Z fr) (k : Nat) (hk : k < fr.1) : w.frozen? ⟨g, k, none⟩ = false := by
  unfold RowZ at h
  simp [World.frozen?, h]
  omega
theorem RowZ.set_ {w : World} {g : Nat} {m : List UInt8} {Z : Array Value} {fr : Nat × Nat} (h : RowZ w g m Z fr) (k : Nat) (hk : k < m.length) (b : UInt8) : RowZ (w.setCell ⟨g, k, none⟩ (.int .u8 (b.toNat : Int))) g (m.set k b) Z fr := by
  unfold RowZ at h ⊢
  have h2 : (w.setCell ⟨g, k, none⟩ (.int .u8 (b.toNat : Int))).heap[g]? = some (.cells (((Lib.byteCells m).toArray ++ Z).setIfInBounds k (.int .u8 (b.toNat : Int))) 5 fr) := by
    simp [World.setCell, Array.getElem?_modify, h]
  have e : ((Lib.byteCells m).toArray ++ Z).setIfInBounds k (.int .u8 (b.toNat : Int)) = (Lib.byteCells (m.set k b)).toArray ++ Z := by
    apply Array.toList_inj.1
    rw [Array.toList_setIfInBounds, Array.toList_append, Array.toList_append, List.set_append_left _ _ (by simpa [Lib.byteCells] using hk)]
    simp [Lib.byteCells, List.map_set]
  rw [h2, e]
theorem low_take (l : List UInt8) (k : Nat) (hk : k < l.length) : ((lowL (l.take k) ++ l.drop k).set k (lowB l[k])) = lowL (l.take (k + 1)) ++ l.drop (k + 1) := by
  have hl : (lowL (l.take k)).length = k := by simp [lowL]; omega
  rw [List.set_append_right _ _ (by omega), hl, Nat.sub_self, List.drop_eq_getElem_cons hk, List.set_cons_zero, List.take_succ_eq_append_getElem hk]
  unfold lowL
  rw [List.map_append, List.map_singleton, List.append_assoc]
  rfl
theorem low_stay (l : List UInt8) (k : Nat) (hk : k < l.length) (h : lowB l[k] = l[k]) : lowL (l.take k) ++ l.drop k = lowL (l.take (k + 1)) ++ l.drop (k + 1) := by
  rw [List.drop_eq_getElem_cons hk, List.take_succ_eq_append_getElem hk]
  unfold lowL
  rw [List.map_append, List.map_singleton, h, List.append_assoc]
  rfl
theorem low_at (l : List UInt8) (k : Nat) (hk : k < l.length) : (lowL (l.take k) ++ l.drop k).length = l.length ∧ ∀ h, (lowL (l.take k) ++ l.drop k)[k]'h = l[k] := by
  have hl : (lowL (l.take k)).length = k := by simp [lowL]; omega
  refine ⟨by simp [lowL]; omega, fun h => ?_⟩
  rw [List.getElem_append_right (by omega)]
  simp [hl]
theorem conv_back (w : World) (g cap : Nat) (m : List UInt8) (Z : Array Value) (fr : Nat × Nat) (h : RowZ w g m Z fr) : (convert 34 9 (.slice (some ⟨g, 0, none⟩) m.length cap)).run Tryd.prog w = .ok (.string (mkS m)) w :=
  run_convert_bytes_back (P := Tryd.prog) w 34 9 5 ⟨g, 0, none⟩ cap m Tryd.underlying34 Tryd.underlying5 Tryd.underlying9 (fun j hj => by rw [add_some, Nat.zero_add]; exact h.cell j hj)

set_option maxRecDepth 20000 in
set_option maxHeartbeats 1600000 in
theorem lower_any (s : ByteArray) (w : World) (hs : s.size ≤ 2147483647) :
    Calls Tryd.prog 11 #[.string s] w fun e w' => e = .returned (.string (mkS (lowL (strB s)))) ∧ Below w.heap.size w w' := by
  have hg1 := grownCap_ge w s.size 0 5
  have hg2 := grownCap_le_maxLen w s.size 0 5 (by unfold maxLen; omega)
  have kc := fun W => run_bytes_of_string (P := Tryd.prog) W 9 34 5 s Tryd.underlying9 Tryd.underlying34 Tryd.underlying5
  go_enter Tryd.func11, Tryd.ntmps11
  go_wp2_with fail
  clear kc
  obtain ⟨g, hg⟩ : ∃ x, w.heap.size = x := ⟨_, rfl⟩
  obtain ⟨cap, hcap⟩ : ∃ x, grownCap w s.size 0 5 = x := ⟨_, rfl⟩
  rw [hcap] at hg1 hg2
  obtain ⟨Z, hZ⟩ : ∃ Z, bytesRow s cap = (Lib.byteCells (strB s)).toArray ++ Z := ⟨Array.replicate (cap - s.size) (.int .u8 0), by
    unfold bytesRow strB Lib.byteCells
    congr 1
    apply Array.toList_inj.1
    simp⟩
  generalize hW : (w.alloc (.cells (bytesRow s (grownCap w s.size 0 5)) 5 ((bytesRow s (grownCap w s.size 0 5)).size, (bytesRow s (grownCap w s.size 0 5)).size + 1))).drew = W1
  obtain ⟨N, hN⟩ : ∃ N, (bytesRow s cap).size = N := ⟨_, rfl⟩
  have hNs : s.size ≤ N := by rw [← hN, hZ, Array.size_append]; simp [Lib.byteCells, strB_length]
  have hR : RowZ W1 g (lowL ((strB s).take 0) ++ (strB s).drop 0) Z (N, N + 1) := by
    rw [← hW, hcap, hN]
    unfold RowZ
    rw [List.take_zero, List.drop_zero]
    show (w.alloc (.cells (bytesRow s cap) 5 (N, N + 1))).heap[g]? = _
    rw [← hg, heap_alloc_new, hZ]
    rfl
  have hB : Below g w W1 := by rw [← hW, ← hg]; exact ((Below.refl _ _).alloc (Nat.le_refl _) _).drew
  have HR := Lib.hid hR
  have hL := strB_length s
  have HL := Lib.hid hL
  have HG := Lib.hid hg
  clear hW hZ hN hR hL
  rw [hcap]
  clear hcap
  go_loopw [10] (fun i wr => ∃ k : Nat, k ≤ s.size ∧ i = .int .i64 k ∧ Hid (RowZ wr g (lowL ((strB s).take k) ++ (strB s).drop k) Z (N, N + 1)) ∧ Below g w wr) (fun i _ => s.size - (intOf i).toNat)
  case atStart => exact ⟨0, Nat.zero_le _, rfl, HR, hB⟩
  case round =>
    obtain ⟨k, hk, rfl, HW, hb⟩ := hrel
    by_cases hlt : k < s.size
    · have hl : k < (strB s).length := by rw [HL.out]; exact hlt
      obtain ⟨b, hbe⟩ : ∃ b, (strB s)[k] = b := ⟨_, rfl⟩
      have ha := low_at (strB s) k hl
      have c1 := HW.out.cell k (by rw [ha.1]; exact hl)
      rw [ha.2, hbe] at c1
      have f1 := HW.out.free k (by show k < N; omega)
      obtain ⟨x, hx⟩ : ∃ x : Nat, b.toNat = x := ⟨_, rfl⟩
      have hb256 : (x : Int) < 256 := by have := UInt8.toNat_lt b; omega
      rw [hx] at c1
      have HXX := Lib.hid hx
      have HA := Lib.hid ha
      by_cases h65 : 65 ≤ x
      · by_cases h90 : x ≤ 90
        · have hlow : lowB b = b + 32 := by unfold lowB; rw [if_pos (by omega)]
          have hsum : IntKind.u8.wrap ((x : Int) + 32) = ((lowB b).toNat : Int) := by
            rw [hlow, IntKind.wrap_u8, UInt8.toNat_add, ← HXX.out]; simp
          have HN : Hid (RowZ (wr.setCell ⟨g, k, none⟩ (.int .u8 ((lowB b).toNat : Int))) g (lowL ((strB s).take (k + 1)) ++ (strB s).drop (k + 1)) Z (N, N + 1)) := by
            have := HW.out.set_ k (by rw [HA.out.1]; exact hl) (lowB b)
            rw [← hbe, low_take _ _ hl, hbe] at this
            exact Lib.hid this
          clear ha hbe hlow hx
          have i65 : (65 : Int) ≤ (x : Int) := by omega
          have i90 : (x : Int) ≤ 90 := by omega
          go_wp2
          go_roundw
          case rel => exact ⟨k + 1, by omega, by go_num, HN, hb.setCell (p := ⟨g, k, none⟩) (Nat.le_refl g) _⟩
          case measure => simp [intOf]; omega
        · have HN : Hid (RowZ wr g (lowL ((strB s).take (k + 1)) ++ (strB s).drop (k + 1)) Z (N, N + 1)) := by
            rw [← low_stay (strB s) k hl (by rw [hbe]; unfold lowB; rw [if_neg (by omega)])]
            exact HW
          clear ha hbe hx
          have i65 : (65 : Int) ≤ (x : Int) := by omega
          have i90 : (90 : Int) < (x : Int) := by omega
          clear h65 h90
          go_wp2
          go_roundw
          case rel => exact ⟨k + 1, by omega, by go_num, HN, hb⟩
          case measure => simp [intOf]; omega
      · have HN : Hid (RowZ wr g (lowL ((strB s).take (k + 1)) ++ (strB s).drop (k + 1)) Z (N, N + 1)) := by
          rw [← low_stay (strB s) k hl (by rw [hbe]; unfold lowB; rw [if_neg (by omega)])]
          exact HW
        clear ha hbe hx
        have i65 : (x : Int) < 65 := by omega
        clear h65
        go_wp2
        go_roundw
        case rel => exact ⟨_, _, _, ⟨k + 1, by omega, by go_num, HN⟩, rfl, rfl, rfl⟩
        case measure => simp [intOf]; omega
    · obtain rfl : k = s.size := by omega
      have hm : lowL ((strB s).take s.size) ++ (strB s).drop s.size = lowL (strB s) := by
        rw [List.take_of_length_le (by rw [HL.out]; exact Nat.le_refl _), List.drop_eq_nil_of_le (by rw [HL.out]; exact Nat.le_refl _), List.append_nil]
      have hcv := conv_back wr g cap _ Z _ HW.out
      rw [hm] at hcv
      rw [show (lowL (strB s)).length = s.size by unfold lowL; rw [List.length_map]; exact HL.out] at hcv
      clear hm
      go_wp2
      go_ret
      exact ⟨rfl, by rw [HG.out]; exact hb⟩
end Go.Proofs.YtodbncgamjkmmaaDoor
