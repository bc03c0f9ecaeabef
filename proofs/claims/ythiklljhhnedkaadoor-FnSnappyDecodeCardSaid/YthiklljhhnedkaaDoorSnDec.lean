/-
  snapref.Decode and impl.SnappyDecode by the plain function. Conditions: those of each theorem.
-/
import Derived.Test.YthiklljhhnedkaaDoorSnGo
import Derived.Test.YthiklljhhnedkaaDoorSnDecS
import Derived.Test.YthiklljhhnedkaaDoorSnWalk
import Derived.Test.YthiklljhhnedkaaDoorStruct
import Derived.Deep.OwnRows
namespace Go.Proofs.YthiklljhhnedkaaDoor
open Go.RowKit

theorem madeRow (L : Nat) : madeCells #[Value.int .u8 0] L = (Lib.byteCells (List.replicate L 0)).toArray := by
  apply Array.toList_inj.1
  rw [toList_madeCells_one]
  simp [Lib.byteCells]
theorem sl_of_blk {w : World} {g t : Nat} {r : List UInt8} (h : w.heap[g]? = some (.cells (Lib.byteCells r).toArray t (0, 0))) (hm : r.length ≤ 9223372036854775807) : Sl w w.heap.size (some ⟨g, 0, none⟩) r.length r.length r := by
  have hg : g < w.heap.size := by
    rcases Nat.lt_or_ge g w.heap.size with h1 | h1
    · exact h1
    · rw [Array.getElem?_eq_none h1] at h; cases h
  refine ⟨rfl, Nat.le_refl _, by unfold maxLen; omega, .inr ⟨g, 0, rfl, hg, fun j hj => ?_⟩⟩
  rw [Nat.zero_add, cell_of_row w g _ _ t (0, 0) h, List.getElem?_toArray]
  unfold Lib.byteCells
  rw [List.getElem?_map, List.getElem?_eq_getElem hj]
  rfl
/-- how Decode ends -/
def GotPost (w : World) (R : Option (List UInt8) × Nat) (E : Value) (e : Ending) (w' : World) : Prop :=
  Below w.heap.size w w' ∧ ((R = (none, 1) ∧ e = .returned (.tuple #[.slice none 0 0, E])) ∨ (∃ r A c, R = (some r, 0) ∧ e = .returned (.tuple #[.slice A r.length c, .nilIface]) ∧ Sl w' w'.heap.size A r.length c r))

set_option maxRecDepth 100000 in
set_option maxHeartbeats 1600000 in
theorem decodeTop_good (A : Option Addr) (n c : Nat) (l : List UInt8) (w : World) (E : Value) (hs : Sl w w.heap.size A n c l) (hn : n ≤ 2147483647) (hc0 : (snLength l).2.2 = 0) (hL : (snLength l).1 ≤ 200000)
    (hR : (snGo (l.drop (snLength l).2.1) (snLength l).1 0 []).2 ≠ 2) (hE : Sentinel w 1 E) (hg : 1 < w.heap.size) :
    Calls Tryd.prog 14 #[.slice none 0 0, .slice A n c] w (GotPost w (snGo (l.drop (snLength l).2.1) (snLength l).1 0 []) E) := by
  obtain ⟨_, _, ha1, ha5, hal⟩ := snLength_good l hc0
  have K := decodedLen_good A n c l w hs hc0
  obtain ⟨L, hLe⟩ : ∃ L, (snLength l).1 = L := ⟨_, rfl⟩
  obtain ⟨at0, hae⟩ : ∃ at0, (snLength l).2.1 = at0 := ⟨_, rfl⟩
  rw [hLe] at K hL hR ⊢
  rw [hae] at K ha1 ha5 hal hR ⊢
  obtain ⟨R, hRe⟩ : ∃ R, snGo (l.drop at0) L 0 [] = R := ⟨_, rfl⟩
  rw [hRe] at hR ⊢
  obtain rfl := hs.len
  have hm := hs.most
  have hcc := hs.cap
  have HS := Lib.hid hs
  have HR := Lib.hid hRe
  have HRC := Lib.hid hR
  have HE := Lib.hid hE
  have KK := Lib.hid K
  have hql : (l.drop at0).length = l.length - at0 := by simp
  have HQL := Lib.hid hql
  have hsq := hs.nextA at0 hal
  obtain ⟨A4, hA4⟩ : ∃ A4, (if c = at0 then A else Option.map (fun x => x.add at0) A) = A4 := ⟨_, rfl⟩
  rw [hA4] at hsq
  have HSQ := Lib.hid hsq
  clear hs hRe hR hE K hLe hae hc0 hql hsq
  by_cases h0 : L = 0
  · subst h0
    have D0 := Lib.hid (decode_row (l.drop at0) 0 w.heap.size none A4 _ _ w R [] HRC.out HSQ.out (fun h => absurd h (by omega)) (fun h => absurd h (by omega)) rfl (by omega) (by omega) HR.out)
    go_enter Tryd.func14, Tryd.ntmps14
    go_wp2_with fail
    refine KK.out.mono ?_
    rintro e w' ⟨rfl, rfl⟩
    go_wp2_with fail
    refine D0.out.mono ?_
    rintro e w1 ⟨hb, ⟨hR1, rfl⟩ | ⟨r, hR1, rfl, hr, _⟩⟩
    · have c1 := (HE.out.below hb hg).1
      have HR1 := Lib.hid hR1
      clear hR1
      go_wp2_with fail
      go_quiet (fail)
      go_wp2
      go_ret2
      exact ⟨below_drewN hb _, .inl ⟨HR1.out, rfl⟩⟩
    · have HR1 := Lib.hid hR1
      have HR2 := Lib.hid hr
      clear hR1 hr
      go_wp2_with fail
      go_ret2
      exact ⟨hb, .inr ⟨r, none, 0, HR1.out, by rw [HR2.out]; rfl, by rw [List.eq_nil_of_length_eq_zero HR2.out]; exact Sl.nil _ _⟩⟩
  · have hLi : decide ((L : Int) ≤ 0) = false := by simp; omega
    have hmk := @run_make_row' Tryd.prog 22 5 (.int .u8 0) 1 Tryd.underlying22 info_u8 rfl .i64 .i64 L (by omega) (by omega)
    rw [madeRow] at hmk
    obtain ⟨row, hrow⟩ : ∃ row, (Lib.byteCells (List.replicate L 0)).toArray = row := ⟨_, rfl⟩
    rw [hrow] at hmk
    have HROW := Lib.hid hrow
    clear hrow
    have hbw := (Below.refl _ w).alloc (Nat.le_refl _) (.cells row 5)
    have D0 := Lib.hid (decode_row (l.drop at0) L w.heap.size (some ⟨w.heap.size, 0, none⟩) A4 _ _ (w.alloc (.cells row 5)) R (List.replicate L 0) HRC.out (HSQ.out.below hbw) (fun _ => rfl) (fun _ => by rw [HROW.out]; exact heap_alloc_new _ _) (by simp) hL (by omega) HR.out)
    go_enter Tryd.func14, Tryd.ntmps14
    go_wp2_with fail
    refine KK.out.mono ?_
    rintro e w' ⟨rfl, rfl⟩
    go_wp2_with fail
    refine D0.out.mono ?_
    rintro e w1 ⟨hb, ⟨hR1, rfl⟩ | ⟨r, hR1, rfl, hr, hrw⟩⟩
    · have hb2 := hbw.trans hb
      have c1 := (HE.out.below hb2 hg).1
      have HR1 := Lib.hid hR1
      clear hR1
      go_wp2_with fail
      go_quiet (fail)
      go_wp2
      go_ret2
      exact ⟨below_drewN hb2 _, .inl ⟨HR1.out, rfl⟩⟩
    · have HR1 := Lib.hid hR1
      have HR2 := Lib.hid hr
      have HRW := Lib.hid (hrw (by omega))
      clear hR1 hr hrw
      go_wp2_with fail
      go_ret2
      refine ⟨hbw.trans hb, .inr ⟨r, some ⟨w.heap.size, 0, none⟩, L, HR1.out, by rw [HR2.out]; rfl, ?_⟩⟩
      have h9 := sl_of_blk HRW.out (by have := HR2.out; omega)
      rwa [HR2.out] at h9 ⊢

set_option maxRecDepth 100000 in
set_option maxHeartbeats 1600000 in
theorem decodeTop_bad (A : Option Addr) (n c : Nat) (l : List UInt8) (w : World) (E : Value) (hs : Sl w w.heap.size A n c l) (hc : (snLength l).2.2 = 1)
    (hE : Sentinel w 1 E) :
    Calls Tryd.prog 14 #[.slice none 0 0, .slice A n c] w (GotPost w (none, 1) E) := by
  obtain ⟨hE1, T, p, rfl⟩ := hE
  have K := Lib.hid (decodedLen_bad A n c l w _ hs hc hE1)
  clear hs hc
  go_enter Tryd.func14, Tryd.ntmps14
  go_wp2_with fail
  refine K.out.mono ?_
  rintro e w' ⟨rfl, hd⟩
  go_wp2_with fail
  go_ret2
  exact ⟨hd.below _, .inl ⟨rfl, rfl⟩⟩

/-- how impl.SnappyDecode ends -/
def ImplPost (w : World) (R : Option (List UInt8) × Nat) (e : Ending) (w' : World) : Prop :=
  Below w.heap.size w w' ∧ ((R = (none, 1) ∧ e = .returned (.tuple #[.slice none 0 0, .bool false])) ∨ (∃ r A c, R = (some r, 0) ∧ e = .returned (.tuple #[.slice A r.length c, .bool true]) ∧ Sl w' w'.heap.size A r.length c r))
set_option maxRecDepth 100000 in
set_option maxHeartbeats 1600000 in
theorem implDecode_any (A : Option Addr) (n c : Nat) (w : World) (E : Value) (R : Option (List UInt8) × Nat) (hE : Sentinel w 1 E)
    (K0 : Calls Tryd.prog 14 #[.slice none 0 0, .slice A n c] w (GotPost w R E)) :
    Calls Tryd.prog 9 #[.slice A n c] w (ImplPost w R) := by
  obtain ⟨hE1, T, p, rfl⟩ := hE
  have K := Lib.hid K0
  clear K0 hE1
  go_enter Tryd.func9, Tryd.ntmps9
  go_wp2_with fail
  refine K.out.mono ?_
  rintro e w1 ⟨hb, ⟨hR1, rfl⟩ | ⟨r, A', c', hR1, rfl, hsl⟩⟩
  · have HR1 := Lib.hid hR1
    clear hR1
    go_wp2_with fail
    go_quiet (fail)
    go_wp2
    go_ret2
    exact ⟨below_drewN hb _, .inl ⟨HR1.out, rfl⟩⟩
  · have HR1 := Lib.hid hR1
    have HS := Lib.hid hsl
    clear hR1 hsl
    go_wp2_with fail
    go_quiet (fail)
    go_wp2
    go_ret2
    exact ⟨below_drewN hb _, .inr ⟨r, A', c', HR1.out, rfl, HS.out.drewN _⟩⟩
end Go.Proofs.YthiklljhhnedkaaDoor
