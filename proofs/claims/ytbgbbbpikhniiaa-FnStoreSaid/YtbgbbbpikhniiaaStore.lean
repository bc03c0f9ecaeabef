/-
  impl.Store and spec.Stored give the same bytes at every place, width and number. Condition: at most 2147483647 bytes.
-/
import Derived.Test.YtbgbbbpikhniiaaPut
namespace Go.Proofs.Ytbgbbbpikhniiaa
open Go.RowKit

/-- What both give. -/
def stV (l : List UInt8) (i k : Int) (v : Nat) : List UInt8 :=
  if i < 0 ∨ (k ≠ 2 ∧ k ≠ 4 ∧ k ≠ 8) ∨ (l.length : Int) - k < i then l else setAll l i.toNat (Lib.leBytes k.toNat v)
theorem stV_none (l : List UInt8) (i k : Int) (v : Nat) (h : i < 0 ∨ (k ≠ 2 ∧ k ≠ 4 ∧ k ≠ 8) ∨ (l.length : Int) - k < i) : stV l i k v = l := by
  unfold stV
  rw [if_pos h]
theorem stV_some (l : List UInt8) (j m v : Nat) (hm : m = 2 ∨ m = 4 ∨ m = 8) (h : j + m ≤ l.length) : stV l j m v = setAll l j (Lib.leBytes m v) := by
  unfold stV
  rw [if_neg (by omega)]
  simp
theorem leBytes_mod : ∀ (k v : Nat), Lib.leBytes k (v % 256 ^ k) = Lib.leBytes k v
  | 0, _ => rfl
  | k + 1, v => by
    simp only [Lib.leBytes]
    have e1 : v % 256 ^ (k + 1) % 256 = v % 256 := by rw [Nat.pow_succ, Nat.mod_mul_left_mod]
    have e2 : v % 256 ^ (k + 1) / 256 = v / 256 % 256 ^ k := by rw [Nat.pow_succ, Nat.mul_comm, Nat.mod_mul_right_div_self]
    rw [e1, e2, leBytes_mod k]

theorem store16_wrap (base g n cap i : Nat) (l : List UInt8) (v : Nat) (w : World) (hb : base ≤ w.heap.size) (h : Own w base (.slice (some ⟨g, 0, none⟩) n cap) l) (hi : i + 2 ≤ n) :
    Calls Try.prog 22 #[.slice (some ⟨g, i, none⟩) (n - i) (cap - i), .int .u16 (IntKind.u16.wrap v)] w fun e w' =>
      e = .returned (.tuple #[]) ∧ Own w' base (.slice (some ⟨g, 0, none⟩) n cap) (setAll l i (Lib.leBytes 2 v)) ∧ Below base w w' := by
  have e : IntKind.u16.wrap (v : Int) = ((v % 65536 : Nat) : Int) := by rw [IntKind.wrap_u16]; omega
  have f := leBytes_mod 2 v
  rw [e, ← f]
  exact store16_any base g n cap i l (v % 65536) (by omega) w hb h hi
theorem store32_wrap (base g n cap i : Nat) (l : List UInt8) (v : Nat) (w : World) (hb : base ≤ w.heap.size) (h : Own w base (.slice (some ⟨g, 0, none⟩) n cap) l) (hi : i + 4 ≤ n) :
    Calls Try.prog 23 #[.slice (some ⟨g, i, none⟩) (n - i) (cap - i), .int .u32 (IntKind.u32.wrap v)] w fun e w' =>
      e = .returned (.tuple #[]) ∧ Own w' base (.slice (some ⟨g, 0, none⟩) n cap) (setAll l i (Lib.leBytes 4 v)) ∧ Below base w w' := by
  have e : IntKind.u32.wrap (v : Int) = ((v % 4294967296 : Nat) : Int) := by rw [IntKind.wrap_u32]; omega
  have f := leBytes_mod 4 v
  rw [e, ← f]
  exact store32_any base g n cap i l (v % 4294967296) (by omega) w hb h hi

/-- What a call leaves that gives a new slice of bytes. -/
def Gives (w : World) (base : Nat) (l : List UInt8) (e : Ending) (w' : World) : Prop :=
  ∃ A c, e = .returned (.slice A l.length c) ∧ Own w' base (.slice A l.length c) l ∧ Sl w' w'.heap.size A l.length c l ∧ Below base w w'

theorem stored_gives {w w' : World} {e : Ending} {base n c i : Nat} {A : Option Addr} {l vs : List UInt8} (he : e = .returned (.slice A n c)) (ho : Own w' base (.slice A n c) (setAll l i vs)) (hb : Below base w w') :
    Gives w base (setAll l i vs) e w' := by
  obtain ⟨A', c', hv, hsl, _⟩ := ho.form
  injection hv with h1 h2 h3
  subst h1 h2 h3
  exact ⟨A, c, he, ho, hsl, hb⟩

set_option maxHeartbeats 800000 in
theorem implStore_any (A : Option Addr) (n c : Nat) (i k : Int) (v : Nat) (hv : Hid (v < 18446744073709551616)) (l : List UInt8) (w : World) (hs : Sl w w.heap.size A n c l) (hn : n ≤ 2147483647) (wk : (Lit.int .i64 k).wf = true) :
    Calls Try.prog 12 #[.slice A n c, .int .i64 i, .int .i64 k, .int .u64 v] w (Gives w w.heap.size (stV l i k v)) := by
  obtain rfl := hs.len
  have hm := hs.most
  have hcc := hs.cap
  have H0 := Lib.hid (Own.lit (base := w.heap.size) w (Nat.le_refl _))
  have HS := Lib.hid (hs.alloc (Nat.le_refl _) (.cells #[] 5))
  by_cases c1 : i < 0
  · rw [stV_none l i k v (.inl c1)]
    go_enter Try.func12, Try.ntmps12
    go_wp2_with (at_builtin; refine wpList_append_sl _ rfl (.tmp 10) (.tmp 11) rfl w.heap.size (.slice (some ⟨w.heap.size, 0, none⟩) 0 0) [] l rfl H0.out w.heap.size A l.length c rfl HS.out (by simp; omega) (by simp) l.length l (by simp) (by simp) ?_; intro A' c' w1 hap)
    go_ret
    exact ⟨A', c', rfl, hap.own, hap.sl, ((Below.refl _ _).alloc (Nat.le_refl _) _).trans hap.bel⟩
  by_cases c2 : k < 1
  · rw [stV_none l i k v (.inr (.inl (by omega)))]
    go_enter Try.func12, Try.ntmps12
    go_wp2_with (at_builtin; refine wpList_append_sl _ rfl (.tmp 10) (.tmp 11) rfl w.heap.size (.slice (some ⟨w.heap.size, 0, none⟩) 0 0) [] l rfl H0.out w.heap.size A l.length c rfl HS.out (by simp; omega) (by simp) l.length l (by simp) (by simp) ?_; intro A' c' w1 hap)
    go_ret
    exact ⟨A', c', rfl, hap.own, hap.sl, ((Below.refl _ _).alloc (Nat.le_refl _) _).trans hap.bel⟩
  by_cases c4 : 8 < k
  · rw [stV_none l i k v (.inr (.inl (by omega)))]
    go_enter Try.func12, Try.ntmps12
    go_wp2_with (at_builtin; refine wpList_append_sl _ rfl (.tmp 10) (.tmp 11) rfl w.heap.size (.slice (some ⟨w.heap.size, 0, none⟩) 0 0) [] l rfl H0.out w.heap.size A l.length c rfl HS.out (by simp; omega) (by simp) l.length l (by simp) (by simp) ?_; intro A' c' w1 hap)
    go_ret
    exact ⟨A', c', rfl, hap.own, hap.sl, ((Below.refl _ _).alloc (Nat.le_refl _) _).trans hap.bel⟩
  by_cases c3 : (l.length : Int) - k < i
  · rw [stV_none l i k v (.inr (.inr c3))]
    go_enter Try.func12, Try.ntmps12
    go_wp2_with (at_builtin; refine wpList_append_sl _ rfl (.tmp 10) (.tmp 11) rfl w.heap.size (.slice (some ⟨w.heap.size, 0, none⟩) 0 0) [] l rfl H0.out w.heap.size A l.length c rfl HS.out (by simp; omega) (by simp) l.length l (by simp) (by simp) ?_; intro A' c' w1 hap)
    go_ret
    exact ⟨A', c', rfl, hap.own, hap.sl, ((Below.refl _ _).alloc (Nat.le_refl _) _).trans hap.bel⟩
  obtain ⟨j, rfl⟩ : ∃ j : Nat, i = j := ⟨i.toNat, by omega⟩
  by_cases hk : k = 2 ∨ k = 4 ∨ k = 8
  · rcases hk with rfl | rfl | rfl
    · have e := stV_some l j 2 v (by omega) (by omega)
      rw [show stV l j 2 v = _ from e]
      clear e
      go_enter Try.func12, Try.ntmps12
      go_wp2_with (first
        | (at_builtin; refine wpList_append_sl _ rfl (.tmp 10) (.tmp 11) rfl w.heap.size (.slice (some ⟨w.heap.size, 0, none⟩) 0 0) [] l rfl H0.out w.heap.size A l.length c rfl HS.out (by simp; omega) (by simp) l.length l (by simp) (by simp) ?_; intro A' c' w1 hap; obtain ⟨g, rfl, hbg, hg⟩ := hap.at_ (by omega); have hcc' := hap.sl.cap; have hne : ¬ c' = j := by omega)
        | (go_at_call 22; refine (store16_wrap w.heap.size g l.length c' j l v _ hap.le hap.own (by omega)).mono ?_; rintro e w' ⟨rfl, ho, hw⟩))
      go_ret
      exact stored_gives rfl ho (((Below.refl _ _).alloc (Nat.le_refl _) _).trans (hap.bel.trans hw))
    · have e := stV_some l j 4 v (by omega) (by omega)
      rw [show stV l j 4 v = _ from e]
      clear e
      go_enter Try.func12, Try.ntmps12
      go_wp2_with (first
        | (at_builtin; refine wpList_append_sl _ rfl (.tmp 10) (.tmp 11) rfl w.heap.size (.slice (some ⟨w.heap.size, 0, none⟩) 0 0) [] l rfl H0.out w.heap.size A l.length c rfl HS.out (by simp; omega) (by simp) l.length l (by simp) (by simp) ?_; intro A' c' w1 hap; obtain ⟨g, rfl, hbg, hg⟩ := hap.at_ (by omega); have hcc' := hap.sl.cap; have hne : ¬ c' = j := by omega)
        | (go_at_call 23; refine (store32_wrap w.heap.size g l.length c' j l v _ hap.le hap.own (by omega)).mono ?_; rintro e w' ⟨rfl, ho, hw⟩))
      go_ret
      exact stored_gives rfl ho (((Below.refl _ _).alloc (Nat.le_refl _) _).trans (hap.bel.trans hw))
    · have e := stV_some l j 8 v (by omega) (by omega)
      rw [show stV l j 8 v = _ from e]
      clear e
      go_enter Try.func12, Try.ntmps12
      go_wp2_with (first
        | (at_builtin; refine wpList_append_sl _ rfl (.tmp 10) (.tmp 11) rfl w.heap.size (.slice (some ⟨w.heap.size, 0, none⟩) 0 0) [] l rfl H0.out w.heap.size A l.length c rfl HS.out (by simp; omega) (by simp) l.length l (by simp) (by simp) ?_; intro A' c' w1 hap; obtain ⟨g, rfl, hbg, hg⟩ := hap.at_ (by omega); have hcc' := hap.sl.cap; have hne : ¬ c' = j := by omega)
        | (go_at_call 24; refine (store64_any w.heap.size g l.length c' j l v hv.out _ hap.le hap.own (by omega)).mono ?_; rintro e w' ⟨rfl, ho, hw⟩))
      go_ret
      exact stored_gives rfl ho (((Below.refl _ _).alloc (Nat.le_refl _) _).trans (hap.bel.trans hw))
  · rw [stV_none l j k v (.inr (.inl (by omega)))]
    have k2 : ¬ k = 2 := by omega
    have k4 : ¬ k = 4 := by omega
    have k8 : ¬ k = 8 := by omega
    go_enter Try.func12, Try.ntmps12
    go_wp2_with (at_builtin; refine wpList_append_sl _ rfl (.tmp 10) (.tmp 11) rfl w.heap.size (.slice (some ⟨w.heap.size, 0, none⟩) 0 0) [] l rfl H0.out w.heap.size A l.length c rfl HS.out (by simp; omega) (by simp) l.length l (by simp) (by simp) ?_; intro A' c' w1 hap)
    go_ret
    exact ⟨A', c', rfl, hap.own, hap.sl, ((Below.refl _ _).alloc (Nat.le_refl _) _).trans hap.bel⟩
end Go.Proofs.Ytbgbbbpikhniiaa
