/-
  (*snReader).copied where it refuses, or leaves the class open. Conditions: those of each.
-/
import Derived.Test.YthiklljhhnedkaaDoorSnLit
namespace Go.Proofs.YthiklljhhnedkaaDoor
open Go.RowKit

set_option maxRecDepth 100000 in
set_option maxHeartbeats 3200000 in
theorem cop_far1 (D : Nat) (A : Option Addr) (n c : Nat) (l : List UInt8) (p x y f N O : Nat) (o : List UInt8) (w : World) (hsl : Sl w D A n c l) (hr : RdSt w D A n c p o) (hn : n ≤ 2147483647) (hf : (f : Int) / 4 = x) (hf5 : (f : Int) / 32 = y) (hx : x < 64) (hy : y < 8)
    (hsp : p + 1 ≤ n) (hNe : Lib.leNat ((l.drop p).take 1) = N) (hO : N + y * 256 = O) (hOl : o.length < O) :
    Calls Tryd.prog 13 #[.pointer (some ⟨D, 0, none⟩), .int .i64 f, .int .i64 1] w fun e w' => e = .returned (.bool false) ∧ RdSt w' D A n c (p + 1) o ∧ Below D w w' := by
  obtain rfl := hsl.len
  have hm := hsl.most
  have hcc := hsl.cap
  obtain ⟨v, hd, hown⟩ := hr
  have KL := Lib.hid (little_good D A l.length c l p 1 v 0 w hsl hd hn (by omega) (by omega) hsp)
  have HN := Lib.hid hNe
  have HO := Lib.hid hown
  have hNb := leNat_below ((l.drop p).take 1)
  rw [hNe, show ((l.drop p).take 1).length = 1 by simp; omega] at hNb
  have h7 : bits .and .i64 (x : Int) 7 = ((x % 8 : Nat) : Int) := by
    have := (bits_nat .i64 62 (by decide) (fun n h0 h1 => by rw [IntKind.wrap_i64]; omega) x 7 (by omega) (by omega)).1
    rw [show x &&& 7 = x % 8 from Nat.and_two_pow_sub_one_eq_mod x 3] at this
    exact this
  clear hown hsl hNe
  go_enter Tryd.func13, Tryd.ntmps13
  go_wp2_with fail
  refine KL.out.mono ?_
  rintro e w1 ⟨rfl, m, hw1⟩
  rw [HN.out]
  have HD1 : Hid (w1.heap[D]? = some (.cells (rdA A l.length c ((p : Int) + 1) v 0) 40 (0, 0))) := by rw [hw1]; exact row40 (row40d hd)
  have hb1 : Below D w w1 := by rw [hw1]; exact bel40 (bel40d (Below.refl _ _) _) _
  have HO1 : Own w1 (D + 1) v o := by rw [hw1]; exact (HO.out.drewN _).set40
  obtain ⟨Ao, co, hv, hslo, _⟩ := HO1.form
  subst hv
  have k2 := cell_of_row w1 D 2 _ 40 (0, 0) HD1.out
  have hOi : (N : Int) + (y : Int) * 256 = (O : Int) := by omega
  have hOd : decide (o.length < O) = true := by simp; omega
  have hOj : (o.length : Int) < (O : Int) := by omega
  have hyi : (y : Int) < 8 := by omega
  have hNi : (N : Int) < 256 := by omega
  have hxi : (((x % 8 : Nat)) : Int) < 8 := by omega
  clear hw1 hd hslo
  go_wp2_with fail
  go_ret
  exact ⟨rfl, ⟨_, by rw [show ((p + 1 : Nat) : Int) = (p : Int) + 1 by omega]; exact HD1, HO1⟩, hb1⟩

set_option maxRecDepth 100000 in
set_option maxHeartbeats 3200000 in
theorem cop_zero1 (D : Nat) (A : Option Addr) (n c : Nat) (l : List UInt8) (p x y f N O : Nat) (o : List UInt8) (w : World) (hsl : Sl w D A n c l) (hr : RdSt w D A n c p o) (hn : n ≤ 2147483647) (hf : (f : Int) / 4 = x) (hf5 : (f : Int) / 32 = y) (hx : x < 64) (hy : y < 8)
    (hsp : p + 1 ≤ n) (hNe : Lib.leNat ((l.drop p).take 1) = N) (hO : N + y * 256 = O) (hO0 : O = 0) :
    Calls Tryd.prog 13 #[.pointer (some ⟨D, 0, none⟩), .int .i64 f, .int .i64 1] w fun e w' => e = .returned (.bool false) ∧ (∃ R, w'.heap[D]? = some (.cells R 40 (0, 0)) ∧ R[3]? = some (.int .i64 2)) ∧ Below D w w' := by
  obtain rfl := hsl.len
  have hm := hsl.most
  have hcc := hsl.cap
  obtain ⟨v, hd, hown⟩ := hr
  have KL := Lib.hid (little_good D A l.length c l p 1 v 0 w hsl hd hn (by omega) (by omega) hsp)
  have HN := Lib.hid hNe
  have HO := Lib.hid hown
  have hNb := leNat_below ((l.drop p).take 1)
  rw [hNe, show ((l.drop p).take 1).length = 1 by simp; omega] at hNb
  have h7 : bits .and .i64 (x : Int) 7 = ((x % 8 : Nat) : Int) := by
    have := (bits_nat .i64 62 (by decide) (fun n h0 h1 => by rw [IntKind.wrap_i64]; omega) x 7 (by omega) (by omega)).1
    rw [show x &&& 7 = x % 8 from Nat.and_two_pow_sub_one_eq_mod x 3] at this
    exact this
  clear hown hsl hNe
  go_enter Tryd.func13, Tryd.ntmps13
  go_wp2_with fail
  refine KL.out.mono ?_
  rintro e w1 ⟨rfl, m, hw1⟩
  rw [HN.out]
  have HD1 : Hid (w1.heap[D]? = some (.cells (rdA A l.length c ((p : Int) + 1) v 0) 40 (0, 0))) := by rw [hw1]; exact row40 (row40d hd)
  have hb1 : Below D w w1 := by rw [hw1]; exact bel40 (bel40d (Below.refl _ _) _) _
  have HO1 : Own w1 (D + 1) v o := by rw [hw1]; exact (HO.out.drewN _).set40
  obtain ⟨Ao, co, hv, hslo, _⟩ := HO1.form
  subst hv
  have k2 := cell_of_row w1 D 2 _ 40 (0, 0) HD1.out
  have hOi : (N : Int) + (y : Int) * 256 = (O : Int) := by omega
  have hOd : decide (o.length < O) = false := by simp; omega
  have hOj : decide ((o.length : Int) < (O : Int)) = false := by simp; omega
  have hOk : ((O : Int) == 0) = true := by simp; omega
  have hOl : O ≤ o.length := by omega
  have f3 := frozen_of_row w1 D 3 _ 40 HD1.out
  have k3 := cell_of_row w1 D 3 _ 40 (0, 0) HD1.out
  have HO0 := Lib.hid hO0
  clear hO0
  have hyi : (y : Int) < 8 := by omega
  have hNi : (N : Int) < 256 := by omega
  have hxi : (((x % 8 : Nat)) : Int) < 8 := by omega
  clear hw1 hd hslo
  go_wp2_with fail
  go_ret
  exact ⟨rfl, ⟨_, (row40 HD1).out, rfl⟩, bel40 hb1 _⟩

set_option maxRecDepth 100000 in
set_option maxHeartbeats 3200000 in
theorem cop_short1 (D : Nat) (A : Option Addr) (n c : Nat) (p x y f : Nat) (o : List UInt8) (w : World) (hr : RdSt w D A n c p o) (hn : n ≤ 2147483647) (hf : (f : Int) / 4 = x) (hf5 : (f : Int) / 32 = y) (hx : x < 64) (hy : y < 8)
    (hp : p ≤ n) (hsp : n < p + 1)  :
    Calls Tryd.prog 13 #[.pointer (some ⟨D, 0, none⟩), .int .i64 f, .int .i64 1] w fun e w' => e = .returned (.bool false) ∧ RdSt w' D A n c p o ∧ Below D w w' := by
  obtain ⟨v, hd, hown⟩ := hr
  have KL := Lib.hid (little_short D A n c p 1 v 0 w hd hn hp (by omega) hsp)
  have HO := Lib.hid hown
  have hyi : (y : Int) < 8 := by omega
  have h7 : bits .and .i64 (x : Int) 7 = ((x % 8 : Nat) : Int) := by
    have := (bits_nat .i64 62 (by decide) (fun n h0 h1 => by rw [IntKind.wrap_i64]; omega) x 7 (by omega) (by omega)).1
    rw [show x &&& 7 = x % 8 from Nat.and_two_pow_sub_one_eq_mod x 3] at this
    exact this
  have hxi : (((x % 8 : Nat)) : Int) < 8 := by omega
  clear hown
  go_enter Tryd.func13, Tryd.ntmps13
  go_wp2_with fail
  refine KL.out.mono ?_
  rintro e w1 ⟨rfl, m, rfl⟩
  go_wp2_with fail
  go_ret
  exact ⟨rfl, ⟨v, row40d hd, HO.out.drewN _⟩, bel40d (Below.refl _ _) _⟩

set_option maxRecDepth 100000 in
set_option maxHeartbeats 3200000 in
theorem cop_farN (D : Nat) (A : Option Addr) (n c : Nat) (l : List UInt8) (p x f s O : Nat) (o : List UInt8) (w : World) (hsl : Sl w D A n c l) (hr : RdSt w D A n c p o) (hn : n ≤ 2147483647) (hf : (f : Int) / 4 = x) (hx : x < 64) (hs1 : 1 < s) (hs4 : s ≤ 4)
    (hsp : p + s ≤ n) (hNe : Lib.leNat ((l.drop p).take s) = O) (hOl : o.length < O) :
    Calls Tryd.prog 13 #[.pointer (some ⟨D, 0, none⟩), .int .i64 f, .int .i64 s] w fun e w' => e = .returned (.bool false) ∧ RdSt w' D A n c (p + s) o ∧ Below D w w' := by
  obtain rfl := hsl.len
  have hm := hsl.most
  have hcc := hsl.cap
  obtain ⟨v, hd, hown⟩ := hr
  have KL := Lib.hid (little_good D A l.length c l p s v 0 w hsl hd hn (by omega) hs4 hsp)
  have HN := Lib.hid hNe
  have HO := Lib.hid hown
  have hs1i : ((s : Int) == 1) = false := by simp; omega
  have hs1j : ¬ s = 1 := by omega
  clear hown hsl hNe
  go_enter Tryd.func13, Tryd.ntmps13
  go_wp2_with fail
  refine KL.out.mono ?_
  rintro e w1 ⟨rfl, m, hw1⟩
  rw [HN.out]
  have HD1 : Hid (w1.heap[D]? = some (.cells (rdA A l.length c ((p : Int) + s) v 0) 40 (0, 0))) := by rw [hw1]; exact row40 (row40d hd)
  have hb1 : Below D w w1 := by rw [hw1]; exact bel40 (bel40d (Below.refl _ _) _) _
  have HO1 : Own w1 (D + 1) v o := by rw [hw1]; exact (HO.out.drewN _).set40
  obtain ⟨Ao, co, hv, hslo, _⟩ := HO1.form
  subst hv
  have k2 := cell_of_row w1 D 2 _ 40 (0, 0) HD1.out
  have hOd : decide (o.length < O) = true := by simp; omega
  have hOj : (o.length : Int) < (O : Int) := by omega
  have hxi : (x : Int) < 64 := by omega
  clear hw1 hd hslo
  go_wp2_with fail
  go_ret
  exact ⟨rfl, ⟨_, by rw [show ((p + s : Nat) : Int) = (p : Int) + s by omega]; exact HD1, HO1⟩, hb1⟩

set_option maxRecDepth 100000 in
set_option maxHeartbeats 3200000 in
theorem cop_zeroN (D : Nat) (A : Option Addr) (n c : Nat) (l : List UInt8) (p x f s O : Nat) (o : List UInt8) (w : World) (hsl : Sl w D A n c l) (hr : RdSt w D A n c p o) (hn : n ≤ 2147483647) (hf : (f : Int) / 4 = x) (hx : x < 64) (hs1 : 1 < s) (hs4 : s ≤ 4)
    (hsp : p + s ≤ n) (hNe : Lib.leNat ((l.drop p).take s) = O) (hO0 : O = 0) :
    Calls Tryd.prog 13 #[.pointer (some ⟨D, 0, none⟩), .int .i64 f, .int .i64 s] w fun e w' => e = .returned (.bool false) ∧ (∃ R, w'.heap[D]? = some (.cells R 40 (0, 0)) ∧ R[3]? = some (.int .i64 2)) ∧ Below D w w' := by
  obtain rfl := hsl.len
  have hm := hsl.most
  have hcc := hsl.cap
  obtain ⟨v, hd, hown⟩ := hr
  have KL := Lib.hid (little_good D A l.length c l p s v 0 w hsl hd hn (by omega) hs4 hsp)
  have HN := Lib.hid hNe
  have HO := Lib.hid hown
  have hs1i : ((s : Int) == 1) = false := by simp; omega
  have hs1j : ¬ s = 1 := by omega
  clear hown hsl hNe
  go_enter Tryd.func13, Tryd.ntmps13
  go_wp2_with fail
  refine KL.out.mono ?_
  rintro e w1 ⟨rfl, m, hw1⟩
  rw [HN.out]
  have HD1 : Hid (w1.heap[D]? = some (.cells (rdA A l.length c ((p : Int) + s) v 0) 40 (0, 0))) := by rw [hw1]; exact row40 (row40d hd)
  have hb1 : Below D w w1 := by rw [hw1]; exact bel40 (bel40d (Below.refl _ _) _) _
  have HO1 : Own w1 (D + 1) v o := by rw [hw1]; exact (HO.out.drewN _).set40
  obtain ⟨Ao, co, hv, hslo, _⟩ := HO1.form
  subst hv
  have k2 := cell_of_row w1 D 2 _ 40 (0, 0) HD1.out
  have hOd : decide (o.length < O) = false := by simp; omega
  have hOj : decide ((o.length : Int) < (O : Int)) = false := by simp; omega
  have hOk : ((O : Int) == 0) = true := by simp; omega
  have hOl : O ≤ o.length := by omega
  have f3 := frozen_of_row w1 D 3 _ 40 HD1.out
  have k3 := cell_of_row w1 D 3 _ 40 (0, 0) HD1.out
  have HO0 := Lib.hid hO0
  clear hO0
  have hxi : (x : Int) < 64 := by omega
  clear hw1 hd hslo
  go_wp2_with fail
  go_ret
  exact ⟨rfl, ⟨_, (row40 HD1).out, rfl⟩, bel40 hb1 _⟩

set_option maxRecDepth 100000 in
set_option maxHeartbeats 3200000 in
theorem cop_shortN (D : Nat) (A : Option Addr) (n c : Nat) (p x f s : Nat) (o : List UInt8) (w : World) (hr : RdSt w D A n c p o) (hn : n ≤ 2147483647) (hf : (f : Int) / 4 = x) (hx : x < 64) (hs1 : 1 < s) (hs4 : s ≤ 4)
    (hp : p ≤ n) (hsp : n < p + s)  :
    Calls Tryd.prog 13 #[.pointer (some ⟨D, 0, none⟩), .int .i64 f, .int .i64 s] w fun e w' => e = .returned (.bool false) ∧ RdSt w' D A n c p o ∧ Below D w w' := by
  obtain ⟨v, hd, hown⟩ := hr
  have KL := Lib.hid (little_short D A n c p s v 0 w hd hn hp (by omega) hsp)
  have HO := Lib.hid hown
  have hs1i : ((s : Int) == 1) = false := by simp; omega
  have hs1j : ¬ s = 1 := by omega
  have hxi : (x : Int) < 64 := by omega
  clear hown
  go_enter Tryd.func13, Tryd.ntmps13
  go_wp2_with fail
  refine KL.out.mono ?_
  rintro e w1 ⟨rfl, m, rfl⟩
  go_wp2_with fail
  go_ret
  exact ⟨rfl, ⟨v, row40d hd, HO.out.drewN _⟩, bel40d (Below.refl _ _) _⟩

end Go.Proofs.YthiklljhhnedkaaDoor
