/-
  (*snReader).literal. Conditions: those of each.
-/
import Derived.Test.YthiklljhhnedkaaDoorSnLittle
import Derived.Test.YthiklljhhnedkaaDoorQtail0
namespace Go.Proofs.YthiklljhhnedkaaDoor
open Go.RowKit

/-- the reader at place p, with what has come out -/
def RdSt (w : World) (D : Nat) (A : Option Addr) (n c : Nat) (p : Nat) (o : List UInt8) : Prop := ∃ v, Hid (w.heap[D]? = some (.cells (rdA A n c p v 0) 40 (0, 0))) ∧ Own w (D + 1) v o
theorem row40 {w : World} {D i : Nat} {R : Array Value} {v : Value} (h : Hid (w.heap[D]? = some (.cells R 40 (0, 0)))) : Hid ((w.setCell ⟨D, i, none⟩ v).heap[D]? = some (.cells (R.setIfInBounds i v) 40 (0, 0))) :=
  Lib.hid (by simp [World.setCell, Array.getElem?_modify, h.out])
theorem row40d {w : World} {D n : Nat} {R : Array Value} (h : Hid (w.heap[D]? = some (.cells R 40 (0, 0)))) : Hid ((w.drewN n).heap[D]? = some (.cells R 40 (0, 0))) := Lib.hid h.out
theorem bel40 {w w' : World} {D i : Nat} (h : Below D w w') (v : Value) : Below D w (w'.setCell ⟨D, i, none⟩ v) := h.setCell (p := ⟨D, i, none⟩) (Nat.le_refl D) v
theorem bel40d {w w' : World} {D : Nat} (h : Below D w w') (n : Nat) : Below D w (w'.drewN n) := ⟨h.os, h.tape, h.output, h.size, h.block⟩
theorem Own.set40 {w : World} {D i : Nat} {v u : Value} {o : List UInt8} (h : Own w (D + 1) v o) : Own (w.setCell ⟨D, i, none⟩ u) (D + 1) v o := by
  refine World.ownsRow.kept (row := some D) h ⟨rfl, rfl, rfl, by simp [World.setCell], fun k _ hk => ?_⟩ ?_
  · have hne : k ≠ D := fun e => hk (by rw [e])
    simp only [World.setCell]
    rw [Array.getElem?_modify]
    simp [hne.symm]
  · rcases h.2 with ⟨rfl, h0⟩ | ⟨g, cap, cur, rfl, hb, _⟩
    · exact .inl rfl
    · refine .inr ?_
      simp only [Value.ownBlock, ne_eq, Option.some.injEq]
      omega

set_option maxRecDepth 100000 in
set_option maxHeartbeats 1600000 in
theorem lit_small_bad (D : Nat) (A : Option Addr) (n c : Nat) (p x f : Nat) (o : List UInt8) (w : World) (hr : RdSt w D A n c p o) (hp : p ≤ n) (hf : (f : Int) / 4 = x) (hx : x < 60) (hsh : n < p + (x + 1)) :
    Calls Tryd.prog 12 #[.pointer (some ⟨D, 0, none⟩), .int .i64 f] w fun e w' => e = .returned (.bool false) ∧ RdSt w' D A n c p o ∧ Below D w w' := by
  obtain ⟨v, hd, hown⟩ := hr
  have HO := Lib.hid hown
  have k0 := cell_of_row w D 0 _ 40 (0, 0) hd.out
  have k1 := cell_of_row w D 1 _ 40 (0, 0) hd.out
  have hx60 : (x : Int) + 1 ≤ 60 := by omega
  have h1 : (n : Int) - (p : Int) < (x : Int) + 1 := by omega
  have h2 : IntKind.i64.wrap ((n : Int) - (p : Int)) = (n : Int) - (p : Int) := by rw [IntKind.wrap_i64]; omega
  clear hown
  go_enter Tryd.func12, Tryd.ntmps12
  go_wp2_with fail
  go_quiet (fail)
  go_wp2_with fail
  go_ret
  exact ⟨rfl, ⟨v, row40d hd, HO.out.drewN _⟩, bel40d (Below.refl _ _) _⟩

set_option maxRecDepth 100000 in
set_option maxHeartbeats 1600000 in
theorem lit_small_good (D : Nat) (A : Option Addr) (n c : Nat) (l : List UInt8) (p x f : Nat) (o : List UInt8) (w : World) (hsl : Sl w D A n c l) (hr : RdSt w D A n c p o) (hn : n ≤ 2147483647) (hp : p ≤ n) (hf : (f : Int) / 4 = x) (hx : x < 60) (hsh : p + (x + 1) ≤ n) (ho : o.length ≤ 200000) :
    Calls Tryd.prog 12 #[.pointer (some ⟨D, 0, none⟩), .int .i64 f] w fun e w' => e = .returned (.bool true) ∧ RdSt w' D A n c (p + (x + 1)) (o ++ (l.drop p).take (x + 1)) ∧ Below D w w' := by
  obtain rfl := hsl.len
  obtain ⟨g, o', rfl, hgD, _⟩ := hsl.at_ (by omega)
  have hm := hsl.most
  have hcc := hsl.cap
  obtain ⟨v, hd, hown⟩ := hr
  have HO := Lib.hid hown
  have hDs : D < w.heap.size := by
    have := hd.out
    rcases Nat.lt_or_ge D w.heap.size with h | h
    · exact h
    · rw [Array.getElem?_eq_none h] at this; cases this
  have HS := Lib.hid hsl
  have k0 := cell_of_row w D 0 _ 40 (0, 0) hd.out
  have k1 := cell_of_row w D 1 _ 40 (0, 0) hd.out
  have k2 := cell_of_row w D 2 _ 40 (0, 0) hd.out
  have hx60 : (x : Int) + 1 ≤ 60 := by omega
  have h1 : (x : Int) + 1 ≤ (l.length : Int) - (p : Int) := by omega
  have h2 : IntKind.i64.wrap ((l.length : Int) - (p : Int)) = (l.length : Int) - (p : Int) := by rw [IntKind.wrap_i64]; omega
  have h3 : IntKind.i64.wrap ((p : Int) + ((x : Int) + 1)) = (p : Int) + ((x : Int) + 1) := by rw [IntKind.wrap_i64]; omega
  clear hown hsl
  go_enter Tryd.func12, Tryd.ntmps12
  go_wp2_with fail
  go_quiet (fail)
  go_wp2_with fail
  refine wp_region_tail0 19 (by kernel_rfl) (by kernel_rfl) (.tmp 0) rfl rfl (fun _ _ _ _ h => h) ?_
  simp only [List.take_succ_cons, List.take_zero, List.drop_succ_cons, List.drop_zero]
  simp [Act.put, Act.eval]
  repeat (go_big_quiet_step (fail))
  refine wpQuiet_nil ?_
  obtain ⟨w2, hw2⟩ : ∃ w2, w.drewN (nq + 1) = w2 := ⟨_, rfl⟩
  have HD2 : Hid (w2.heap[D]? = some (.cells (rdA (some ⟨g, o', none⟩) l.length c p v 0) 40 (0, 0))) := by rw [← hw2]; exact row40d hd
  have hb2 : Below D w w2 := by rw [← hw2]; exact bel40d (Below.refl _ _) _
  have hcut : Sl w2 D (some ⟨g, o' + p, none⟩) (p + (x + 1) - p) (c - p) ((l.drop p).take (x + 1)) := by
    have := (HS.out.below hb2).cut (some ⟨g, o' + p, none⟩) (i := p) (j := p + (x + 1)) (c' := c - p) (by omega) (by omega) (by omega) (by omega) (fun _ => by simp [add_some])
    rw [List.drop_take] at this
    rw [show p + (x + 1) - p = x + 1 by omega] at this ⊢
    exact this
  have HO2 : Own w2 (D + 1) v o := by rw [← hw2]; exact HO.out.drewN _
  have hsz2 : D + 1 ≤ w2.heap.size := by have := hb2.size; omega
  rw [hw2]
  clear hw2 k0 k1 k2 hd
  refine wpList_append_sl w2 rfl (.tmp 40) (.tmp 55) rfl (D + 1) v o ((l.drop p).take (x + 1)) rfl HO2 D (some ⟨g, o' + p, none⟩) (p + (x + 1) - p) (c - p) rfl hcut (by omega) hsz2 (o.length + (x + 1)) (o ++ (l.drop p).take (x + 1)) (by omega) rfl ?_
  intro A' c' w3 happ
  have HD3 : Hid (w3.heap[D]? = some (.cells (rdA (some ⟨g, o', none⟩) l.length c p v 0) 40 (0, 0))) := Lib.hid ((happ.bel.block D (by omega)).trans HD2.out)
  have hb3 : Below D w w3 := hb2.trans (happ.bel.mono (by omega))
  have HO3 := Lib.hid happ.own
  have k1 := cell_of_row w3 D 1 _ 40 (0, 0) HD3.out
  have f1 := frozen_of_row w3 D 1 _ 40 HD3.out
  have k2 := cell_of_row w3 D 2 _ 40 (0, 0) HD3.out
  have f2 := frozen_of_row w3 D 2 _ 40 HD3.out
  clear happ HD2 hb2 HO2 hcut
  go_wp2_with fail
  go_ret
  refine ⟨rfl, ⟨_, ?_, HO3.out.set40.set40⟩, bel40 (bel40 hb3 _) _⟩
  rw [show ((p + (x + 1) : Nat) : Int) = (p : Int) + ((x : Int) + 1) by omega]
  exact row40 (row40 HD3)
set_option maxRecDepth 100000 in
set_option maxHeartbeats 1600000 in
theorem lit_big_good (D : Nat) (A : Option Addr) (n c : Nat) (l : List UInt8) (p x f s N : Nat) (o : List UInt8) (w : World) (hsl : Sl w D A n c l) (hr : RdSt w D A n c p o) (hn : n ≤ 2147483647) (hp : p ≤ n) (hf : (f : Int) / 4 = x) (hx : x = s + 59) (hs0 : 0 < s) (hs4 : s ≤ 4) (hsp : p + s ≤ n) (hNe : Lib.leNat ((l.drop p).take s) = N) (hsh : p + s + (N + 1) ≤ n) (ho : o.length ≤ 200000) :
    Calls Tryd.prog 12 #[.pointer (some ⟨D, 0, none⟩), .int .i64 f] w fun e w' => e = .returned (.bool true) ∧ RdSt w' D A n c (p + s + (N + 1)) (o ++ (l.drop (p + s)).take (N + 1)) ∧ Below D w w' := by
  obtain rfl := hsl.len
  obtain ⟨g, o', rfl, hgD, _⟩ := hsl.at_ (by omega)
  have hm := hsl.most
  have hcc := hsl.cap
  obtain ⟨v, hd, hown⟩ := hr
  have HO := Lib.hid hown
  have hDs : D < w.heap.size := by
    have := hd.out
    rcases Nat.lt_or_ge D w.heap.size with h | h
    · exact h
    · rw [Array.getElem?_eq_none h] at this; cases this
  have HS := Lib.hid hsl
  have KL := Lib.hid (little_good D (some ⟨g, o', none⟩) l.length c l p s v 0 w hsl hd hn hs0 hs4 hsp)
  have HN := Lib.hid hNe
  have hsi : (x : Int) = (s : Int) + 59 := by omega
  clear hown hsl hNe
  go_enter Tryd.func12, Tryd.ntmps12
  go_wp2_with fail
  rw [show (s : Int) + 59 + 1 - 60 = (s : Int) by omega]
  refine KL.out.mono ?_
  rintro e w1 ⟨rfl, m, hw1⟩
  rw [HN.out]
  have HD1 : Hid (w1.heap[D]? = some (.cells (rdA (some ⟨g, o', none⟩) l.length c ((p : Int) + s) v 0) 40 (0, 0))) := by rw [hw1]; exact row40 (row40d hd)
  have hb1 : Below D w w1 := by rw [hw1]; exact bel40 (bel40d (Below.refl _ _) _) _
  have HO1 : Own w1 (D + 1) v o := by rw [hw1]; exact (HO.out.drewN _).set40
  obtain ⟨p2, hp2⟩ : ∃ p2, p + s = p2 := ⟨_, rfl⟩
  rw [show (p : Int) + (s : Int) = (p2 : Int) by omega] at HD1
  have hsh2 : p2 + (N + 1) ≤ l.length := by omega
  have HP2 := Lib.hid hp2
  have k0 := cell_of_row w1 D 0 _ 40 (0, 0) HD1.out
  have k1 := cell_of_row w1 D 1 _ 40 (0, 0) HD1.out
  have k2 := cell_of_row w1 D 2 _ 40 (0, 0) HD1.out
  have hNi : IntKind.i64.wrap ((N : Int) + 1) = (N : Int) + 1 := by rw [IntKind.wrap_i64]; omega
  have h1 : (N : Int) + 1 ≤ (l.length : Int) - (p2 : Int) := by omega
  have h2 : IntKind.i64.wrap ((l.length : Int) - (p2 : Int)) = (l.length : Int) - (p2 : Int) := by rw [IntKind.wrap_i64]; omega
  have h3 : IntKind.i64.wrap ((p2 : Int) + ((N : Int) + 1)) = (p2 : Int) + ((N : Int) + 1) := by rw [IntKind.wrap_i64]; omega
  clear hw1 hp2 hd hsi
  go_wp2_with fail
  go_quiet (fail)
  go_wp2_with fail
  refine wp_region_tail0 19 (by kernel_rfl) (by kernel_rfl) (.tmp 0) rfl rfl (fun _ _ _ _ h => h) ?_
  simp only [List.take_succ_cons, List.take_zero, List.drop_succ_cons, List.drop_zero]
  simp [Act.put, Act.eval]
  repeat (go_big_quiet_step (fail))
  refine wpQuiet_nil ?_
  obtain ⟨w2, hw2⟩ : ∃ w2, w1.drewN (nq + 1) = w2 := ⟨_, rfl⟩
  have HD2 : Hid (w2.heap[D]? = some (.cells (rdA (some ⟨g, o', none⟩) l.length c p2 v 0) 40 (0, 0))) := by rw [← hw2]; exact row40d HD1
  have hb2 : Below D w w2 := by rw [← hw2]; exact bel40d hb1 _
  have hcut : Sl w2 D (some ⟨g, o' + p2, none⟩) (p2 + (N + 1) - p2) (c - p2) ((l.drop p2).take (N + 1)) := by
    have := (HS.out.below hb2).cut (some ⟨g, o' + p2, none⟩) (i := p2) (j := p2 + (N + 1)) (c' := c - p2) (by omega) (by omega) (by omega) (by omega) (fun _ => by simp [add_some])
    rw [List.drop_take] at this
    rw [show p2 + (N + 1) - p2 = N + 1 by omega] at this ⊢
    exact this
  have HO2 : Own w2 (D + 1) v o := by rw [← hw2]; exact HO1.drewN _
  have hsz2 : D + 1 ≤ w2.heap.size := by have := hb2.size; omega
  rw [hw2]
  clear hw2 k0 k1 k2 HD1 hb1 HO1
  refine wpList_append_sl w2 rfl (.tmp 40) (.tmp 55) rfl (D + 1) v o ((l.drop p2).take (N + 1)) rfl HO2 D (some ⟨g, o' + p2, none⟩) (p2 + (N + 1) - p2) (c - p2) rfl hcut (by omega) hsz2 (o.length + (N + 1)) (o ++ (l.drop p2).take (N + 1)) (by omega) rfl ?_
  intro A' c' w3 happ
  have HD3 : Hid (w3.heap[D]? = some (.cells (rdA (some ⟨g, o', none⟩) l.length c p2 v 0) 40 (0, 0))) := Lib.hid ((happ.bel.block D (by omega)).trans HD2.out)
  have hb3 : Below D w w3 := hb2.trans (happ.bel.mono (by omega))
  have HO3 := Lib.hid happ.own
  have k1 := cell_of_row w3 D 1 _ 40 (0, 0) HD3.out
  have f1 := frozen_of_row w3 D 1 _ 40 HD3.out
  have k2 := cell_of_row w3 D 2 _ 40 (0, 0) HD3.out
  have f2 := frozen_of_row w3 D 2 _ 40 HD3.out
  clear happ HD2 hb2 HO2 hcut
  go_wp2_with fail
  go_ret
  rw [HP2.out]
  refine ⟨rfl, ⟨_, ?_, HO3.out.set40.set40⟩, bel40 (bel40 hb3 _) _⟩
  rw [show ((p2 + (N + 1) : Nat) : Int) = (p2 : Int) + ((N : Int) + 1) by omega]
  exact row40 (row40 HD3)

set_option maxRecDepth 100000 in
set_option maxHeartbeats 1600000 in
theorem lit_big_long (D : Nat) (A : Option Addr) (n c : Nat) (l : List UInt8) (p x f s N : Nat) (o : List UInt8) (w : World) (hsl : Sl w D A n c l) (hr : RdSt w D A n c p o) (hn : n ≤ 2147483647) (hp : p ≤ n) (hf : (f : Int) / 4 = x) (hx : x = s + 59) (hs0 : 0 < s) (hs4 : s ≤ 4) (hsp : p + s ≤ n) (hNe : Lib.leNat ((l.drop p).take s) = N) (hsh : n < p + s + (N + 1)) (hN32 : N < 4294967296) :
    Calls Tryd.prog 12 #[.pointer (some ⟨D, 0, none⟩), .int .i64 f] w fun e w' => e = .returned (.bool false) ∧ RdSt w' D A n c (p + s) o ∧ Below D w w' := by
  obtain rfl := hsl.len
  obtain ⟨g, o', rfl, hgD, _⟩ := hsl.at_ (by omega)
  have hm := hsl.most
  have hcc := hsl.cap
  obtain ⟨v, hd, hown⟩ := hr
  have HO := Lib.hid hown
  have hDs : D < w.heap.size := by
    have := hd.out
    rcases Nat.lt_or_ge D w.heap.size with h | h
    · exact h
    · rw [Array.getElem?_eq_none h] at this; cases this
  have HS := Lib.hid hsl
  have KL := Lib.hid (little_good D (some ⟨g, o', none⟩) l.length c l p s v 0 w hsl hd hn hs0 hs4 hsp)
  have HN := Lib.hid hNe
  have hsi : (x : Int) = (s : Int) + 59 := by omega
  clear hown hsl hNe
  go_enter Tryd.func12, Tryd.ntmps12
  go_wp2_with fail
  rw [show (s : Int) + 59 + 1 - 60 = (s : Int) by omega]
  refine KL.out.mono ?_
  rintro e w1 ⟨rfl, m, hw1⟩
  rw [HN.out]
  have HD1 : Hid (w1.heap[D]? = some (.cells (rdA (some ⟨g, o', none⟩) l.length c ((p : Int) + s) v 0) 40 (0, 0))) := by rw [hw1]; exact row40 (row40d hd)
  have hb1 : Below D w w1 := by rw [hw1]; exact bel40 (bel40d (Below.refl _ _) _) _
  have HO1 : Own w1 (D + 1) v o := by rw [hw1]; exact (HO.out.drewN _).set40
  obtain ⟨p2, hp2⟩ : ∃ p2, p + s = p2 := ⟨_, rfl⟩
  rw [show (p : Int) + (s : Int) = (p2 : Int) by omega] at HD1
  have HP2 := Lib.hid hp2
  have k0 := cell_of_row w1 D 0 _ 40 (0, 0) HD1.out
  have k1 := cell_of_row w1 D 1 _ 40 (0, 0) HD1.out
  have hNi : IntKind.i64.wrap ((N : Int) + 1) = (N : Int) + 1 := by rw [IntKind.wrap_i64]; omega
  have h1 : (l.length : Int) - (p2 : Int) < (N : Int) + 1 := by omega
  have h2 : IntKind.i64.wrap ((l.length : Int) - (p2 : Int)) = (l.length : Int) - (p2 : Int) := by rw [IntKind.wrap_i64]; omega
  clear hw1 hp2 hd hsi hsh
  go_wp2_with fail
  go_quiet (fail)
  go_wp2_with fail
  go_ret
  rw [HP2.out]
  exact ⟨rfl, ⟨v, row40d HD1, HO1.drewN _⟩, bel40d hb1 _⟩

set_option maxRecDepth 100000 in
set_option maxHeartbeats 1600000 in
theorem lit_big_short (D : Nat) (A : Option Addr) (n c : Nat) (p x f s : Nat) (o : List UInt8) (w : World) (hr : RdSt w D A n c p o) (hn : n ≤ 2147483647) (hf : (f : Int) / 4 = x) (hx : x = s + 59) (hs0 : 0 < s) (hs4 : s ≤ 4) (hp : p ≤ n) (hsp : n < p + s) :
    Calls Tryd.prog 12 #[.pointer (some ⟨D, 0, none⟩), .int .i64 f] w fun e w' => e = .returned (.bool false) ∧ RdSt w' D A n c p o ∧ Below D w w' := by
  obtain ⟨v, hd, hown⟩ := hr
  have HO := Lib.hid hown
  have KL := Lib.hid (little_short D A n c p s v 0 w hd hn hp hs4 hsp)
  have hsi : (x : Int) = (s : Int) + 59 := by omega
  have hs1 : (0 : Int) < (s : Int) := by omega
  clear hown
  go_enter Tryd.func12, Tryd.ntmps12
  go_wp2_with fail
  rw [show (s : Int) + 59 + 1 - 60 = (s : Int) by omega]
  refine KL.out.mono ?_
  rintro e w1 ⟨rfl, m, rfl⟩
  go_wp2_with fail
  go_ret
  exact ⟨rfl, ⟨v, row40d hd, HO.out.drewN _⟩, bel40d (Below.refl _ _) _⟩

end Go.Proofs.YthiklljhhnedkaaDoor
