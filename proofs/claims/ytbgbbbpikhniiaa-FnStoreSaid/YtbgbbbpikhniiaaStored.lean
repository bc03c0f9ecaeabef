/-
  spec.Stored: the bytes with a number stored at a place, its lowest byte first. Condition: at most 2147483647 bytes.
-/
import Derived.Test.YtbgbbbpikhniiaaStore
namespace Go.Proofs.Ytbgbbbpikhniiaa
open Go.RowKit

theorem leBytes_succ : ∀ (k v : Nat), Lib.leBytes (k + 1) v = Lib.leBytes k v ++ [(v / 256 ^ k % 256).toUInt8]
  | 0, v => by simp [Lib.leBytes]
  | k + 1, v => by
    have h := leBytes_succ k (v / 256)
    rw [Lib.leBytes, h, Lib.leBytes, List.cons_append, Nat.div_div_eq_div_mul, Nat.pow_succ, Nat.mul_comm 256]
theorem setAll_snoc : ∀ (vs l : List UInt8) (i : Nat) (b : UInt8), setAll l i (vs ++ [b]) = (setAll l i vs).set (i + vs.length) b
  | [], _, _, _ => rfl
  | c :: r, l, i, b => by
    rw [List.cons_append, setAll, setAll, setAll_snoc r, List.length_cons]
    congr 1
    omega
theorem store_step {w : World} {base g n cap j m v : Nat} {l : List UInt8} (h : Own w base (.slice (some ⟨g, 0, none⟩) n cap) (setAll l j (Lib.leBytes m v))) :
    Own (w.setCell ⟨g, j + m, none⟩ (.int .u8 ((v : Int) / 2 ^ (8 * m) % 256))) base (.slice (some ⟨g, 0, none⟩) n cap) (setAll l j (Lib.leBytes (m + 1) v)) ∧
      w.grownBy (w.setCell ⟨g, j + m, none⟩ (.int .u8 ((v : Int) / 2 ^ (8 * m) % 256))) (some g) := by
  have e1 : ((v : Int) / 2 ^ (8 * m) % 256) = (((v / 256 ^ m % 256).toUInt8).toNat : Int) := by
    have e2 : (256 : Nat) ^ m = 2 ^ (8 * m) := by rw [Nat.pow_mul]
    rw [Lib.toUInt8_mod, e2]
    simp
  rw [e1, leBytes_succ, setAll_snoc, Lib.leBytes_length]
  exact h.set_ _ _

set_option maxHeartbeats 1600000 in
theorem stored_any (A : Option Addr) (n c : Nat) (i k : Int) (v : Nat) (hv : Hid (v < 18446744073709551616)) (l : List UInt8) (w : World) (hs : Sl w w.heap.size A n c l) (hn : n ≤ 2147483647) (wk : (Lit.int .i64 k).wf = true) :
    Calls Try.prog 14 #[.slice A n c, .int .i64 i, .int .i64 k, .int .u64 v] w (Gives w w.heap.size (stV l i k v)) := by
  obtain rfl := hs.len
  have hm := hs.most
  have hcc := hs.cap
  have H0 := Lib.hid (Own.lit (base := w.heap.size) w (Nat.le_refl _))
  have HS := Lib.hid (hs.alloc (Nat.le_refl _) (.cells #[] 5))
  by_cases c1 : i < 0
  · rw [stV_none l i k v (.inl c1)]
    go_enter Try.func14, Try.ntmps14
    go_wp2_with (at_builtin; refine wpList_append_sl _ rfl (.tmp 11) (.tmp 12) rfl w.heap.size (.slice (some ⟨w.heap.size, 0, none⟩) 0 0) [] l rfl H0.out w.heap.size A l.length c rfl HS.out (by simp; omega) (by simp) l.length l (by simp) (by simp) ?_; intro A' c' w1 hap)
    go_ret
    exact ⟨A', c', rfl, hap.own, hap.sl, ((Below.refl _ _).alloc (Nat.le_refl _) _).trans hap.bel⟩
  by_cases hk : k = 2 ∨ k = 4 ∨ k = 8
  · by_cases c3 : (l.length : Int) - k < i
    · rcases hk with rfl | rfl | rfl
      · rw [stV_none l i 2 v (.inr (.inr c3))]
        go_enter Try.func14, Try.ntmps14
        go_wp2_with (at_builtin; refine wpList_append_sl _ rfl (.tmp 11) (.tmp 12) rfl w.heap.size (.slice (some ⟨w.heap.size, 0, none⟩) 0 0) [] l rfl H0.out w.heap.size A l.length c rfl HS.out (by simp; omega) (by simp) l.length l (by simp) (by simp) ?_; intro A' c' w1 hap)
        go_ret
        exact ⟨A', c', rfl, hap.own, hap.sl, ((Below.refl _ _).alloc (Nat.le_refl _) _).trans hap.bel⟩
      · rw [stV_none l i 4 v (.inr (.inr c3))]
        go_enter Try.func14, Try.ntmps14
        go_wp2_with (at_builtin; refine wpList_append_sl _ rfl (.tmp 11) (.tmp 12) rfl w.heap.size (.slice (some ⟨w.heap.size, 0, none⟩) 0 0) [] l rfl H0.out w.heap.size A l.length c rfl HS.out (by simp; omega) (by simp) l.length l (by simp) (by simp) ?_; intro A' c' w1 hap)
        go_ret
        exact ⟨A', c', rfl, hap.own, hap.sl, ((Below.refl _ _).alloc (Nat.le_refl _) _).trans hap.bel⟩
      · rw [stV_none l i 8 v (.inr (.inr c3))]
        go_enter Try.func14, Try.ntmps14
        go_wp2_with (at_builtin; refine wpList_append_sl _ rfl (.tmp 11) (.tmp 12) rfl w.heap.size (.slice (some ⟨w.heap.size, 0, none⟩) 0 0) [] l rfl H0.out w.heap.size A l.length c rfl HS.out (by simp; omega) (by simp) l.length l (by simp) (by simp) ?_; intro A' c' w1 hap)
        go_ret
        exact ⟨A', c', rfl, hap.own, hap.sl, ((Below.refl _ _).alloc (Nat.le_refl _) _).trans hap.bel⟩
    · obtain ⟨j, rfl⟩ : ∃ j : Nat, i = j := ⟨i.toNat, by omega⟩
      rcases hk with rfl | rfl | rfl
      · have e := stV_some l j 2 v (by omega) (by omega)
        rw [show stV l j 2 v = _ from e]
        clear e
        go_enter Try.func14, Try.ntmps14
        go_wp2_with (first
          | (at_builtin; refine wpList_append_sl _ rfl (.tmp 11) (.tmp 12) rfl w.heap.size (.slice (some ⟨w.heap.size, 0, none⟩) 0 0) [] l rfl H0.out w.heap.size A l.length c rfl HS.out (by simp; omega) (by simp) l.length l (by simp) (by simp) ?_; intro A' c' w1 hap; obtain ⟨g, rfl, hbg, hg⟩ := hap.at_ (by omega); have hcc' := hap.sl.cap))
        go_loopw [10, 38] (fun _ i wr => ∃ m : Nat, m ≤ 2 ∧ i = .int .i64 m ∧ Own wr w.heap.size (.slice (some ⟨g, 0, none⟩) l.length c') (setAll l j (Lib.leBytes m v)) ∧ Below w.heap.size w wr) (fun _ i _ => 2 - (intOf i).toNat)
        case atStart => exact ⟨0, by omega, rfl, hap.own, ((Below.refl _ _).alloc (Nat.le_refl _) _).trans hap.bel⟩
        case round =>
          obtain ⟨m, hm2, rfl, ho, hb⟩ := hrel
          by_cases hlt : m < 2
          · have hcell := ho.cellAt (j + m) (by rw [setAll_length]; omega)
            have hfr := ho.frozenAt (j + m)
            go_wp2
            go_roundw
            case rel => exact ⟨m + 1, by omega, by go_num, (store_step ho).1, hb.grown (store_step ho).2 (by have := hb.size; omega) (by rintro k hk; cases hk; exact hbg)⟩
            case measure => simp [intOf]; omega
          · obtain rfl : m = 2 := by omega
            go_wp2
            go_ret
            exact stored_gives rfl ho hb
      · have e := stV_some l j 4 v (by omega) (by omega)
        rw [show stV l j 4 v = _ from e]
        clear e
        go_enter Try.func14, Try.ntmps14
        go_wp2_with (first
          | (at_builtin; refine wpList_append_sl _ rfl (.tmp 11) (.tmp 12) rfl w.heap.size (.slice (some ⟨w.heap.size, 0, none⟩) 0 0) [] l rfl H0.out w.heap.size A l.length c rfl HS.out (by simp; omega) (by simp) l.length l (by simp) (by simp) ?_; intro A' c' w1 hap; obtain ⟨g, rfl, hbg, hg⟩ := hap.at_ (by omega); have hcc' := hap.sl.cap))
        go_loopw [10, 38] (fun _ i wr => ∃ m : Nat, m ≤ 4 ∧ i = .int .i64 m ∧ Own wr w.heap.size (.slice (some ⟨g, 0, none⟩) l.length c') (setAll l j (Lib.leBytes m v)) ∧ Below w.heap.size w wr) (fun _ i _ => 4 - (intOf i).toNat)
        case atStart => exact ⟨0, by omega, rfl, hap.own, ((Below.refl _ _).alloc (Nat.le_refl _) _).trans hap.bel⟩
        case round =>
          obtain ⟨m, hm2, rfl, ho, hb⟩ := hrel
          by_cases hlt : m < 4
          · have hcell := ho.cellAt (j + m) (by rw [setAll_length]; omega)
            have hfr := ho.frozenAt (j + m)
            go_wp2
            go_roundw
            case rel => exact ⟨m + 1, by omega, by go_num, (store_step ho).1, hb.grown (store_step ho).2 (by have := hb.size; omega) (by rintro k hk; cases hk; exact hbg)⟩
            case measure => simp [intOf]; omega
          · obtain rfl : m = 4 := by omega
            go_wp2
            go_ret
            exact stored_gives rfl ho hb
      · have e := stV_some l j 8 v (by omega) (by omega)
        rw [show stV l j 8 v = _ from e]
        clear e
        go_enter Try.func14, Try.ntmps14
        go_wp2_with (first
          | (at_builtin; refine wpList_append_sl _ rfl (.tmp 11) (.tmp 12) rfl w.heap.size (.slice (some ⟨w.heap.size, 0, none⟩) 0 0) [] l rfl H0.out w.heap.size A l.length c rfl HS.out (by simp; omega) (by simp) l.length l (by simp) (by simp) ?_; intro A' c' w1 hap; obtain ⟨g, rfl, hbg, hg⟩ := hap.at_ (by omega); have hcc' := hap.sl.cap))
        go_loopw [10, 38] (fun _ i wr => ∃ m : Nat, m ≤ 8 ∧ i = .int .i64 m ∧ Own wr w.heap.size (.slice (some ⟨g, 0, none⟩) l.length c') (setAll l j (Lib.leBytes m v)) ∧ Below w.heap.size w wr) (fun _ i _ => 8 - (intOf i).toNat)
        case atStart => exact ⟨0, by omega, rfl, hap.own, ((Below.refl _ _).alloc (Nat.le_refl _) _).trans hap.bel⟩
        case round =>
          obtain ⟨m, hm2, rfl, ho, hb⟩ := hrel
          by_cases hlt : m < 8
          · have hcell := ho.cellAt (j + m) (by rw [setAll_length]; omega)
            have hfr := ho.frozenAt (j + m)
            go_wp2
            go_roundw
            case rel => exact ⟨m + 1, by omega, by go_num, (store_step ho).1, hb.grown (store_step ho).2 (by have := hb.size; omega) (by rintro k hk; cases hk; exact hbg)⟩
            case measure => simp [intOf]; omega
          · obtain rfl : m = 8 := by omega
            go_wp2
            go_ret
            exact stored_gives rfl ho hb
  · have k2 : ¬ k = 2 := by omega
    have k4 : ¬ k = 4 := by omega
    have k8 : ¬ k = 8 := by omega
    rw [stV_none l i k v (.inr (.inl (by omega)))]
    go_enter Try.func14, Try.ntmps14
    go_wp2_with (at_builtin; refine wpList_append_sl _ rfl (.tmp 11) (.tmp 12) rfl w.heap.size (.slice (some ⟨w.heap.size, 0, none⟩) 0 0) [] l rfl H0.out w.heap.size A l.length c rfl HS.out (by simp; omega) (by simp) l.length l (by simp) (by simp) ?_; intro A' c' w1 hap)
    go_ret
    exact ⟨A', c', rfl, hap.own, hap.sl, ((Below.refl _ _).alloc (Nat.le_refl _) _).trans hap.bel⟩
end Go.Proofs.Ytbgbbbpikhniiaa
