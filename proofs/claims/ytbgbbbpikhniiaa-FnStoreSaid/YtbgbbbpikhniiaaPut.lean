/-
  Store16, Store32, Store64 store a number with its lowest byte first, and nothing else changes. Conditions: the place lies in the slice.
-/
import Derived.Test.YtbgbbbpikhniiaaLoad
import Derived.Test.YtbgbbbpikhniiaaOwn
import Derived.Test.YtbgbbbpikhniiaaShelf
import Derived.Deep.RegionWith
namespace Go.Proofs.Ytbgbbbpikhniiaa
open Go.RowKit

theorem Own.cellAt {w : World} {base g n cap : Nat} {l : List UInt8} (h : Own w base (.slice (some ⟨g, 0, none⟩) n cap) l) (j : Nat) (hj : j < l.length) :
    w.cell? ⟨g, j, none⟩ = some (.int .u8 (l[j]).toNat) := by
  have hn : n = l.length := by
    rcases h.2 with ⟨e, _⟩ | ⟨g, cap, cur, e, _⟩
    · cases e
    · injection e
  subst hn
  rw [World.ownsRow.cellAt (g := g) (cap := cap) h j (by omega)]
  simp [Lib.byteCells, hj]
theorem Own.frozenAt {w : World} {base g n cap : Nat} {l : List UInt8} (h : Own w base (.slice (some ⟨g, 0, none⟩) n cap) l) (j : Nat) : w.frozen? ⟨g, j, none⟩ = false := by
  have hn : n = l.length := by
    rcases h.2 with ⟨e, _⟩ | ⟨g, cap, cur, e, _⟩
    · cases e
    · injection e
  subst hn
  exact World.ownsRow.frozenAt (g := g) (cap := cap) h j
theorem Own.blk {w : World} {base g n cap : Nat} {l : List UInt8} (h : Own w base (.slice (some ⟨g, 0, none⟩) n cap) l) : base ≤ g ∧ g < w.heap.size ∧ l.length = n ∧ n ≤ cap ∧ cap ≤ 9223372036854775807 := by
  rcases h.2 with ⟨e, _⟩ | ⟨g', cap', cur, e, hb, hh, hc, hm, _⟩
  · cases e
  · injection e with e1 e2 e3
    injection e1 with e1
    injection e1 with e1
    subst e1 e2 e3
    refine ⟨hb, ?_, rfl, hc, hm⟩
    rcases Nat.lt_or_ge g w.heap.size with hlt | hge
    · exact hlt
    · rw [Array.getElem?_eq_none hge] at hh; cases hh

/-- binary.LittleEndian.PutUint16 into a part of a slice that the call made. -/
theorem putUint16_any (base g n cap i : Nat) (l : List UInt8) (v : Nat) (hv : v < 65536) (w : World) (hb : base ≤ w.heap.size) (h : Own w base (.slice (some ⟨g, 0, none⟩) n cap) l) (hi : i + 2 ≤ n) :
    Calls Try.prog 28 #[.agg #[], .slice (some ⟨g, i, none⟩) (n - i) (cap - i), .int .u16 v] w fun e w' =>
      e = .returned (.tuple #[]) ∧ Own w' base (.slice (some ⟨g, 0, none⟩) n cap) (setAll l i (Lib.leBytes 2 v)) ∧ Below base w w' := by
  have hh := h.blk
  obtain ⟨hbg, hg, hl, hc, _⟩ := hh
  refine (Try.binary_LE_PutUint16 g i (n - i) (cap - i) v hv _ _ w (by omega) (h.cellAt i (by omega)) (h.cellAt (i + 1) (by omega)) (h.frozenAt _) (h.frozenAt _)).mono ?_
  rintro e w' ⟨rfl, rfl⟩
  have h2 := Own.setMany (Lib.leBytes 2 v) l _ i (h.alloc (.cells #[] 49))
  exact ⟨rfl, h2.1, ((Below.refl _ _).alloc hb _).grown h2.2 (by simp; omega) (by rintro k hk; cases hk; exact hbg)⟩

/-- binary.LittleEndian.PutUint32 into a part of a slice that the call made. -/
theorem putUint32_any (base g n cap i : Nat) (l : List UInt8) (v : Nat) (hv : v < 4294967296) (w : World) (hb : base ≤ w.heap.size) (h : Own w base (.slice (some ⟨g, 0, none⟩) n cap) l) (hi : i + 4 ≤ n) :
    Calls Try.prog 29 #[.agg #[], .slice (some ⟨g, i, none⟩) (n - i) (cap - i), .int .u32 v] w fun e w' =>
      e = .returned (.tuple #[]) ∧ Own w' base (.slice (some ⟨g, 0, none⟩) n cap) (setAll l i (Lib.leBytes 4 v)) ∧ Below base w w' := by
  have hh := h.blk
  obtain ⟨hbg, hg, hl, hc, _⟩ := hh
  refine (Try.binary_LE_PutUint32 g i (n - i) (cap - i) v hv _ _ _ _ w (by omega) (h.cellAt i (by omega)) (h.cellAt (i + 1) (by omega)) (h.cellAt (i + 2) (by omega)) (h.cellAt (i + 3) (by omega)) (h.frozenAt _) (h.frozenAt _) (h.frozenAt _) (h.frozenAt _)).mono ?_
  rintro e w' ⟨rfl, rfl⟩
  have h2 := Own.setMany (Lib.leBytes 4 v) l _ i (h.alloc (.cells #[] 49))
  exact ⟨rfl, h2.1, ((Below.refl _ _).alloc hb _).grown h2.2 (by simp; omega) (by rintro k hk; cases hk; exact hbg)⟩

/-- binary.LittleEndian.PutUint64 into a part of a slice that the call made. -/
theorem putUint64_any (base g n cap i : Nat) (l : List UInt8) (v : Nat) (hv : v < 18446744073709551616) (w : World) (hb : base ≤ w.heap.size) (h : Own w base (.slice (some ⟨g, 0, none⟩) n cap) l) (hi : i + 8 ≤ n) :
    Calls Try.prog 30 #[.agg #[], .slice (some ⟨g, i, none⟩) (n - i) (cap - i), .int .u64 v] w fun e w' =>
      e = .returned (.tuple #[]) ∧ Own w' base (.slice (some ⟨g, 0, none⟩) n cap) (setAll l i (Lib.leBytes 8 v)) ∧ Below base w w' := by
  have hh := h.blk
  obtain ⟨hbg, hg, hl, hc, _⟩ := hh
  refine (Try.binary_LE_PutUint64 g i (n - i) (cap - i) v hv _ _ _ _ _ _ _ _ w (by omega) (h.cellAt i (by omega)) (h.cellAt (i + 1) (by omega)) (h.cellAt (i + 2) (by omega)) (h.cellAt (i + 3) (by omega)) (h.cellAt (i + 4) (by omega)) (h.cellAt (i + 5) (by omega)) (h.cellAt (i + 6) (by omega)) (h.cellAt (i + 7) (by omega)) (h.frozenAt _) (h.frozenAt _) (h.frozenAt _) (h.frozenAt _) (h.frozenAt _) (h.frozenAt _) (h.frozenAt _) (h.frozenAt _)).mono ?_
  rintro e w' ⟨rfl, rfl⟩
  have h2 := Own.setMany (Lib.leBytes 8 v) l _ i (h.alloc (.cells #[] 49))
  exact ⟨rfl, h2.1, ((Below.refl _ _).alloc hb _).grown h2.2 (by simp; omega) (by rintro k hk; cases hk; exact hbg)⟩

set_option maxHeartbeats 400000 in
theorem store16_any (base g n cap i : Nat) (l : List UInt8) (v : Nat) (hv : v < 65536) (w : World) (hb : base ≤ w.heap.size) (h : Own w base (.slice (some ⟨g, 0, none⟩) n cap) l) (hi : i + 2 ≤ n) :
    Calls Try.prog 22 #[.slice (some ⟨g, i, none⟩) (n - i) (cap - i), .int .u16 v] w fun e w' =>
      e = .returned (.tuple #[]) ∧ Own w' base (.slice (some ⟨g, 0, none⟩) n cap) (setAll l i (Lib.leBytes 2 v)) ∧ Below base w w' := by
  have K := Lib.hid (putUint16_any base g n cap i l v hv w hb h hi)
  go_enter Try.func22, Try.ntmps22
  go_wp2_with (go_at_call 28; refine K.out.mono ?_; rintro e w' ⟨rfl, ho, hw⟩)
  go_end0
  exact ⟨rfl, ho, hw⟩

set_option maxHeartbeats 400000 in
theorem store32_any (base g n cap i : Nat) (l : List UInt8) (v : Nat) (hv : v < 4294967296) (w : World) (hb : base ≤ w.heap.size) (h : Own w base (.slice (some ⟨g, 0, none⟩) n cap) l) (hi : i + 4 ≤ n) :
    Calls Try.prog 23 #[.slice (some ⟨g, i, none⟩) (n - i) (cap - i), .int .u32 v] w fun e w' =>
      e = .returned (.tuple #[]) ∧ Own w' base (.slice (some ⟨g, 0, none⟩) n cap) (setAll l i (Lib.leBytes 4 v)) ∧ Below base w w' := by
  have K := Lib.hid (putUint32_any base g n cap i l v hv w hb h hi)
  go_enter Try.func23, Try.ntmps23
  go_wp2_with (go_at_call 29; refine K.out.mono ?_; rintro e w' ⟨rfl, ho, hw⟩)
  go_end0
  exact ⟨rfl, ho, hw⟩

theorem below_drew' {base : Nat} {w w' : World} (h : Below base w.drew w') : Below base w w' := ((Below.refl _ _).drew).trans h

set_option maxHeartbeats 400000 in
theorem store64_any (base g n cap i : Nat) (l : List UInt8) (v : Nat) (hv : v < 18446744073709551616) (w : World) (hb : base ≤ w.heap.size) (h : Own w base (.slice (some ⟨g, 0, none⟩) n cap) l) (hi : i + 8 ≤ n) :
    Calls Try.prog 24 #[.slice (some ⟨g, 0, none⟩) n cap, .int .i64 i, .int .u64 v] w fun e w' =>
      e = .returned (.tuple #[]) ∧ Own w' base (.slice (some ⟨g, 0, none⟩) n cap) (setAll l i (Lib.leBytes 8 v)) ∧ Below base w w' := by
  obtain ⟨_, _, hl, hc, hm⟩ := h.blk
  have K := Lib.hid (putUint64_any base g n cap i l v hv w.drew hb h.drew hi)
  have hne : ¬ cap = i := by omega
  clear hv
  go_enter Try.func24, Try.ntmps24
  go_wp2
  go_region_with (go_at_call 30; refine K.out.mono ?_; rintro e w' ⟨rfl, ho, hw⟩)
  all_goals
    go_wp2
    go_end0
    exact ⟨rfl, by assumption, below_drew' (by assumption)⟩
end Go.Proofs.Ytbgbbbpikhniiaa
