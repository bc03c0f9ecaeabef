/-
  Load8, Load16, Load32, Load64 at a place give the number of the bytes there; impl.Load and spec.Loaded answer alike at every place and width. Condition: at most 2147483647 bytes.
-/
import Derived.Test.YtbgbbbpikhniiaaWord
import Derived.Test.YtbgbbbpikhniiaaU16
import Derived.Test.YtbgbbbpikhniiaaU32
import Derived.Test.YtbgbbbpikhniiaaU64
import Derived.Deep.RegionWith
namespace Go.Proofs.Ytbgbbbpikhniiaa
open Go.RowKit

theorem leNat_take_lt (l : List UInt8) (m : Nat) : Lib.leNat (l.take m) < 256 ^ m :=
  Nat.lt_of_lt_of_le (leNat_lt _) (Nat.pow_le_pow_right (by omega) (by simp; omega))
theorem leNat_take1 (l : List UInt8) : (Lib.leNat (l.take 1) : Int) < 256 := by have := leNat_take_lt l 1; omega
theorem leNat_take2 (l : List UInt8) : (Lib.leNat (l.take 2) : Int) < 65536 := by have := leNat_take_lt l 2; omega
theorem leNat_take4 (l : List UInt8) : (Lib.leNat (l.take 4) : Int) < 4294967296 := by have := leNat_take_lt l 4; omega
theorem leNat_take8 (l : List UInt8) : (Lib.leNat (l.take 8) : Int) < 18446744073709551616 := by have := leNat_take_lt l 8; omega

theorem Sl.from_ {w : World} {B n c : Nat} {l : List UInt8} {g o : Nat} (h : Sl w B (some ⟨g, o, none⟩) n c l) {i : Nat} (hi : i < n) :
    Sl w B (some ⟨g, o + i, none⟩) (n - i) (c - i) (l.drop i) := by
  have hc := h.cap
  have hl := h.len
  have := h.cut (some ⟨g, o + i, none⟩) (i := i) (j := n) (c' := c - i) (by omega) (Nat.le_refl _) (by omega) (by omega) (fun _ => by simp [add_some])
  rwa [List.take_of_length_le (by omega)] at this

theorem below_drew {w w' : World} (h : Below w.drew.heap.size w.drew w') : Below w.heap.size w w' := ((Below.refl _ _).drew).trans h

set_option maxHeartbeats 400000 in
theorem load16_any (A : Option Addr) (n c i : Nat) (l : List UInt8) (w : World) (hs : Sl w w.heap.size A n c l) (h : i + 2 ≤ n) :
    Calls Try.prog 18 #[.slice A n c, .int .i64 i] w fun e w' => e = .returned (.int .u16 (Lib.leNat ((l.drop i).take 2))) ∧ Below w.heap.size w w' := by
  obtain rfl := hs.len
  have hm := hs.most
  have hcc := hs.cap
  obtain ⟨g, o, rfl, _, _⟩ := hs.at_ (by omega)
  have hne : ¬ c = i := by omega
  have hcut := (hs.from_ (i := i) (by omega))
  have K := Lib.hid (uint16_any _ _ _ w.heap.size (l.drop i) w.drew (hcut.drew) (by omega))
  go_enter Try.func18, Try.ntmps18
  go_wp2
  go_region_with (go_at_call 25; refine K.out.mono ?_; rintro e w' ⟨rfl, hb⟩)
  all_goals
    go_wp2
    go_ret
    exact ⟨rfl, below_drew (by assumption)⟩

set_option maxHeartbeats 400000 in
theorem load32_any (A : Option Addr) (n c i : Nat) (l : List UInt8) (w : World) (hs : Sl w w.heap.size A n c l) (h : i + 4 ≤ n) :
    Calls Try.prog 19 #[.slice A n c, .int .i64 i] w fun e w' => e = .returned (.int .u32 (Lib.leNat ((l.drop i).take 4))) ∧ Below w.heap.size w w' := by
  obtain rfl := hs.len
  have hm := hs.most
  have hcc := hs.cap
  obtain ⟨g, o, rfl, _, _⟩ := hs.at_ (by omega)
  have hne : ¬ c = i := by omega
  have hcut := (hs.from_ (i := i) (by omega))
  have K := Lib.hid (uint32_any _ _ _ w.heap.size (l.drop i) w.drew (hcut.drew) (by omega))
  go_enter Try.func19, Try.ntmps19
  go_wp2
  go_region_with (go_at_call 26; refine K.out.mono ?_; rintro e w' ⟨rfl, hb⟩)
  all_goals
    go_wp2
    go_ret
    exact ⟨rfl, below_drew (by assumption)⟩

set_option maxHeartbeats 400000 in
theorem load64_any (A : Option Addr) (n c i : Nat) (l : List UInt8) (w : World) (hs : Sl w w.heap.size A n c l) (h : i + 8 ≤ n) :
    Calls Try.prog 20 #[.slice A n c, .int .i64 i] w fun e w' => e = .returned (.int .u64 (Lib.leNat ((l.drop i).take 8))) ∧ Below w.heap.size w w' := by
  obtain rfl := hs.len
  have hm := hs.most
  have hcc := hs.cap
  obtain ⟨g, o, rfl, _, _⟩ := hs.at_ (by omega)
  have hne : ¬ c = i := by omega
  have hcut := (hs.from_ (i := i) (by omega))
  have K := Lib.hid (uint64_any _ _ _ w.heap.size (l.drop i) w.drew (hcut.drew) (by omega))
  go_enter Try.func20, Try.ntmps20
  go_wp2
  go_region_with (go_at_call 27; refine K.out.mono ?_; rintro e w' ⟨rfl, hb⟩)
  all_goals
    go_wp2
    go_ret
    exact ⟨rfl, below_drew (by assumption)⟩

set_option maxHeartbeats 400000 in
theorem load8_any (A : Option Addr) (n c i : Nat) (l : List UInt8) (w : World) (hs : Sl w w.heap.size A n c l) (h : i + 1 ≤ n) :
    Calls Try.prog 17 #[.slice A n c, .int .i64 i] w fun e w' => e = .returned (.int .u8 (Lib.leNat ((l.drop i).take 1))) ∧ w = w' := by
  obtain rfl := hs.len
  have hm := hs.most
  have hcc := hs.cap
  obtain ⟨g, o, rfl, _, hc⟩ := hs.at_ (by omega)
  have hi : i < l.length := by omega
  have ci := hc i hi
  have e : (l.drop i).take 1 = [l[i]] := by rw [List.drop_eq_getElem_cons hi]; rfl
  rw [e]
  simp only [Lib.leNat]
  clear e hc
  go_enter Try.func17, Try.ntmps17
  go_wp2
  go_ret
  simp

/-- What both give: the number of the bytes from a place on, 0 for another width and where they are not there. -/
def ldV (l : List UInt8) (i k : Int) : Nat :=
  if i < 0 ∨ (k ≠ 1 ∧ k ≠ 2 ∧ k ≠ 4 ∧ k ≠ 8) ∨ (l.length : Int) - k < i then 0 else Lib.leNat ((l.drop i.toNat).take k.toNat)

theorem ldV_none (l : List UInt8) (i k : Int) (h : i < 0 ∨ (k ≠ 1 ∧ k ≠ 2 ∧ k ≠ 4 ∧ k ≠ 8) ∨ (l.length : Int) - k < i) : ldV l i k = 0 := by
  unfold ldV
  rw [if_pos h]
theorem ldV_some (l : List UInt8) (j m : Nat) (hm : m = 1 ∨ m = 2 ∨ m = 4 ∨ m = 8) (h : j + m ≤ l.length) : ldV l j m = Lib.leNat ((l.drop j).take m) := by
  unfold ldV
  rw [if_neg (by omega)]
  simp

theorem Sl.part {w : World} {B n c : Nat} {l : List UInt8} {g o : Nat} (h : Sl w B (some ⟨g, o, none⟩) n c l) {i m : Nat} (hi : i + m ≤ n) :
    Sl w B (some ⟨g, o + i, none⟩) m (c - i) ((l.drop i).take m) := by
  have hc := h.cap
  have := h.cut (some ⟨g, o + i, none⟩) (i := i) (j := i + m) (c' := c - i) (by omega) hi (by omega) (by omega) (fun _ => by simp [add_some])
  rw [List.drop_take] at this
  simpa using this

set_option maxHeartbeats 800000 in
theorem loaded_any (A : Option Addr) (n c : Nat) (i k : Int) (l : List UInt8) (w : World) (hs : Sl w w.heap.size A n c l) (hn : n ≤ 2147483647) (wk : (Lit.int .i64 k).wf = true) :
    Calls Try.prog 11 #[.slice A n c, .int .i64 i, .int .i64 k] w fun e w' => e = .returned (.int .u64 (ldV l i k)) ∧ w = w' := by
  obtain rfl := hs.len
  have hm := hs.most
  have hcc := hs.cap
  by_cases c1 : i < 0
  · rw [ldV_none l i k (.inl c1)]
    go_enter Try.func11, Try.ntmps11
    go_wp2
    go_ret
    simp
  by_cases hk : k = 1 ∨ k = 2 ∨ k = 4 ∨ k = 8
  · by_cases c3 : (l.length : Int) - k < i
    · rw [ldV_none l i k (.inr (.inr c3))]
      rcases hk with rfl | rfl | rfl | rfl
      all_goals
        go_enter Try.func11, Try.ntmps11
        go_wp2
        go_ret
        simp
    · obtain ⟨j, rfl⟩ : ∃ j : Nat, i = j := ⟨i.toNat, by omega⟩
      obtain ⟨g, o, rfl, _, _⟩ := hs.at_ (by omega)
      have hne : ¬ c = j := by omega
      rcases hk with rfl | rfl | rfl | rfl
      · have e := ldV_some l j 1 (by omega) (by omega)
        have K := Lib.hid (zWord_any _ _ _ _ w (hs.part (i := j) (m := 1) (by omega)) (by omega))
        rw [show ldV l j 1 = _ from e]
        clear e
        go_enter Try.func11, Try.ntmps11
        go_wp2_with fail
        refine K.out.mono ?_
        rintro e w' ⟨rfl, rfl⟩
        go_wp2
        go_ret
        simp
      · have e := ldV_some l j 2 (by omega) (by omega)
        have K := Lib.hid (zWord_any _ _ _ _ w (hs.part (i := j) (m := 2) (by omega)) (by omega))
        rw [show ldV l j 2 = _ from e]
        clear e
        go_enter Try.func11, Try.ntmps11
        go_wp2_with fail
        refine K.out.mono ?_
        rintro e w' ⟨rfl, rfl⟩
        go_wp2
        go_ret
        simp
      · have e := ldV_some l j 4 (by omega) (by omega)
        have K := Lib.hid (zWord_any _ _ _ _ w (hs.part (i := j) (m := 4) (by omega)) (by omega))
        rw [show ldV l j 4 = _ from e]
        clear e
        go_enter Try.func11, Try.ntmps11
        go_wp2_with fail
        refine K.out.mono ?_
        rintro e w' ⟨rfl, rfl⟩
        go_wp2
        go_ret
        simp
      · have e := ldV_some l j 8 (by omega) (by omega)
        have K := Lib.hid (zWord_any _ _ _ _ w (hs.part (i := j) (m := 8) (by omega)) (by omega))
        rw [show ldV l j 8 = _ from e]
        clear e
        go_enter Try.func11, Try.ntmps11
        go_wp2_with fail
        refine K.out.mono ?_
        rintro e w' ⟨rfl, rfl⟩
        go_wp2
        go_ret
        simp
  · rw [ldV_none l i k (.inr (.inl (by omega)))]
    have k1 : ¬ k = 1 := by omega
    have k2 : ¬ k = 2 := by omega
    have k4 : ¬ k = 4 := by omega
    have k8 : ¬ k = 8 := by omega
    go_enter Try.func11, Try.ntmps11
    go_wp2
    go_ret
    simp

set_option maxHeartbeats 800000 in
theorem implLoad_any (A : Option Addr) (n c : Nat) (i k : Int) (l : List UInt8) (w : World) (hs : Sl w w.heap.size A n c l) (hn : n ≤ 2147483647) (wk : (Lit.int .i64 k).wf = true) :
    Calls Try.prog 10 #[.slice A n c, .int .i64 i, .int .i64 k] w fun e w' => e = .returned (.int .u64 (ldV l i k)) ∧ Below w.heap.size w w' := by
  obtain rfl := hs.len
  have hm := hs.most
  have hcc := hs.cap
  by_cases c1 : i < 0
  · rw [ldV_none l i k (.inl c1)]
    go_enter Try.func10, Try.ntmps10
    go_wp2
    go_ret
    exact ⟨rfl, Below.refl _ _⟩
  by_cases c2 : k < 1
  · rw [ldV_none l i k (.inr (.inl (by omega)))]
    go_enter Try.func10, Try.ntmps10
    go_wp2
    go_ret
    exact ⟨rfl, Below.refl _ _⟩
  by_cases c4 : 8 < k
  · rw [ldV_none l i k (.inr (.inl (by omega)))]
    go_enter Try.func10, Try.ntmps10
    go_wp2
    go_ret
    exact ⟨rfl, Below.refl _ _⟩
  by_cases c3 : (l.length : Int) - k < i
  · rw [ldV_none l i k (.inr (.inr c3))]
    go_enter Try.func10, Try.ntmps10
    go_wp2
    go_ret
    exact ⟨rfl, Below.refl _ _⟩
  obtain ⟨j, rfl⟩ : ∃ j : Nat, i = j := ⟨i.toNat, by omega⟩
  by_cases hk : k = 1 ∨ k = 2 ∨ k = 4 ∨ k = 8
  · rcases hk with rfl | rfl | rfl | rfl
    · have e := ldV_some l j 1 (by omega) (by omega)
      have K := Lib.hid (load8_any _ _ _ j l w hs (by omega))
      have hbd := leNat_take1 (l.drop j)
      rw [show ldV l j 1 = _ from e]
      clear e
      go_enter Try.func10, Try.ntmps10
      go_wp2_with fail
      refine K.out.mono ?_
      rintro e w' ⟨rfl, rfl⟩
      go_wp2
      go_ret
      exact ⟨rfl, Below.refl _ _⟩
    · have e := ldV_some l j 2 (by omega) (by omega)
      have K := Lib.hid (load16_any _ _ _ j l w hs (by omega))
      have hbd := leNat_take2 (l.drop j)
      rw [show ldV l j 2 = _ from e]
      clear e
      go_enter Try.func10, Try.ntmps10
      go_wp2_with fail
      refine K.out.mono ?_
      rintro e w' ⟨rfl, hb⟩
      go_wp2
      go_ret
      exact ⟨rfl, hb⟩
    · have e := ldV_some l j 4 (by omega) (by omega)
      have K := Lib.hid (load32_any _ _ _ j l w hs (by omega))
      have hbd := leNat_take4 (l.drop j)
      rw [show ldV l j 4 = _ from e]
      clear e
      go_enter Try.func10, Try.ntmps10
      go_wp2_with fail
      refine K.out.mono ?_
      rintro e w' ⟨rfl, hb⟩
      go_wp2
      go_ret
      exact ⟨rfl, hb⟩
    · have e := ldV_some l j 8 (by omega) (by omega)
      have K := Lib.hid (load64_any _ _ _ j l w hs (by omega))
      rw [show ldV l j 8 = _ from e]
      clear e
      go_enter Try.func10, Try.ntmps10
      go_wp2_with fail
      refine K.out.mono ?_
      rintro e w' ⟨rfl, hb⟩
      go_wp2
      go_ret
      exact ⟨rfl, hb⟩
  · rw [ldV_none l j k (.inr (.inl (by omega)))]
    have k1 : ¬ k = 1 := by omega
    have k2 : ¬ k = 2 := by omega
    have k4 : ¬ k = 4 := by omega
    have k8 : ¬ k = 8 := by omega
    go_enter Try.func10, Try.ntmps10
    go_wp2
    go_ret
    exact ⟨rfl, Below.refl _ _⟩
end Go.Proofs.Ytbgbbbpikhniiaa
