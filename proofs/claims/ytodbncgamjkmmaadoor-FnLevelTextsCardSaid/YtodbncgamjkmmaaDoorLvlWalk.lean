/-
  FnLevelTexts's walk. Conditions: none.
-/
import Derived.Test.YtodbncgamjkmmaaDoorLvlLow
import Derived.Test.YtodbncgamjkmmaaDoorShelf
import Derived.Laws.Small
namespace Go.Proofs.YtodbncgamjkmmaaDoor
open Go.RowKit

/-- the texts of the levels -/
def nm : Nat → List UInt8
  | 1 => [102, 97, 115, 116, 101, 115, 116]
  | 2 => [100, 101, 102, 97, 117, 108, 116]
  | 3 => [98, 101, 116, 116, 101, 114]
  | 4 => [98, 101, 115, 116]
  | _ => [105, 110, 118, 97, 108, 105, 100]
theorem low_nat (x : UInt8) : (lowB x).toNat = if 65 ≤ x.toNat ∧ x.toNat ≤ 90 then x.toNat + 32 else x.toNat := by
  unfold lowB
  split
  · rw [UInt8.toNat_add]; simp; omega
  · rfl
theorem foldEq_low (x y : UInt8) : Lib.foldEq x y = decide (lowB x = lowB y) := by
  unfold Lib.foldEq
  rw [decide_eq_decide, ← UInt8.toNat_inj, low_nat, low_nat]
  split <;> split <;> omega
theorem equalFold_low : ∀ s t : List UInt8, Lib.equalFold s t = decide (lowL s = lowL t)
  | [], [] => rfl
  | x :: s, y :: t => by
    unfold Lib.equalFold
    rw [equalFold_low s t, foldEq_low, Bool.eq_iff_iff, Bool.and_eq_true, decide_eq_true_iff, decide_eq_true_iff, decide_eq_true_iff]
    unfold lowL
    rw [List.map_cons, List.map_cons, List.cons.injEq]
  | [], y :: t => by simp [Lib.equalFold, lowL]
  | x :: s, [] => by simp [Lib.equalFold, lowL]
theorem low_nm : ∀ k, 1 ≤ k → k ≤ 4 → lowL (nm k) = nm k := by
  intro k h1 h4
  rcases (show k = 1 ∨ k = 2 ∨ k = 3 ∨ k = 4 by omega) with rfl | rfl | rfl | rfl <;> decide
/-- the level of a text -/
def lvOf (l : List UInt8) : Nat := if lowL l = nm 1 then 1 else if lowL l = nm 2 then 2 else if lowL l = nm 3 then 3 else if lowL l = nm 4 then 4 else 0
def hit (l : List UInt8) (k : Nat) : Bool := decide (lowL l = nm k)
theorem fold_hit (l : List UInt8) (k : Nat) (h1 : 1 ≤ k) (h4 : k ≤ 4) : Lib.equalFold l (nm k) = hit l k := by rw [equalFold_low, low_nm k h1 h4]; rfl
def knownOf (l : List UInt8) : Nat → Nat
  | 0 => 0
  | k + 1 => if hit l (k + 1) = true then k + 1 else knownOf l k
theorem lv_none (l : List UInt8) (h : ∀ j, 1 ≤ j → j ≤ 4 → hit l j = false) : lvOf l = 0 := by
  have h1 := of_decide_eq_false (h 1 (by omega) (by omega)); have h2 := of_decide_eq_false (h 2 (by omega) (by omega)); have h3 := of_decide_eq_false (h 3 (by omega) (by omega)); have h4 := of_decide_eq_false (h 4 (by omega) (by omega))
  unfold lvOf
  rw [if_neg h1, if_neg h2, if_neg h3, if_neg h4]
theorem nm_ne : nm 1 ≠ nm 2 ∧ nm 1 ≠ nm 3 ∧ nm 1 ≠ nm 4 ∧ nm 2 ≠ nm 3 ∧ nm 2 ≠ nm 4 ∧ nm 3 ≠ nm 4 := by decide
theorem lv_hit (l : List UInt8) (k : Nat) (h1 : 1 ≤ k) (h4 : k ≤ 4) (h : hit l k = true) : lvOf l = k := by
  have hk := of_decide_eq_true h
  obtain ⟨n12, n13, n14, n23, n24, n34⟩ := nm_ne
  unfold lvOf
  rcases (show k = 1 ∨ k = 2 ∨ k = 3 ∨ k = 4 by omega) with rfl | rfl | rfl | rfl
  · rw [if_pos hk]
  · rw [if_neg (by rw [hk]; exact fun e => n12 e.symm), if_pos hk]
  · rw [if_neg (by rw [hk]; exact fun e => n13 e.symm), if_neg (by rw [hk]; exact fun e => n23 e.symm), if_pos hk]
  · rw [if_neg (by rw [hk]; exact fun e => n14 e.symm), if_neg (by rw [hk]; exact fun e => n24 e.symm), if_neg (by rw [hk]; exact fun e => n34 e.symm), if_pos hk]
theorem known_lv (l : List UInt8) : knownOf l 4 = lvOf l := by
  cases h4 : hit l 4 with
  | true => rw [lv_hit l 4 (by omega) (by omega) h4]; simp [knownOf, h4]
  | false =>
    cases h3 : hit l 3 with
    | true => rw [lv_hit l 3 (by omega) (by omega) h3]; simp [knownOf, h4, h3]
    | false =>
      cases h2 : hit l 2 with
      | true => rw [lv_hit l 2 (by omega) (by omega) h2]; simp [knownOf, h4, h3, h2]
      | false =>
        cases h1 : hit l 1 with
        | true => rw [lv_hit l 1 (by omega) (by omega) h1]; simp [knownOf, h4, h3, h2, h1]
        | false =>
          rw [lv_none l (fun j h h' => by rcases (show j = 1 ∨ j = 2 ∨ j = 3 ∨ j = 4 by omega) with rfl | rfl | rfl | rfl <;> assumption)]
          simp [knownOf, h4, h3, h2, h1]
theorem plain_at {l : List UInt8} (h : plainB l = true) (j : Nat) (b : UInt8) (hb : l[j]? = some b) : b.toNat < 128 := by
  unfold plainB at h
  have := List.all_eq_true.1 h b (List.mem_of_getElem? hb)
  simp at this
  omega

theorem level_string (k : Nat) (h1 : 1 ≤ k) (h4 : k ≤ 4) (w : World) : Calls Tryd.prog 9 #[.int .i64 k] w fun e w' => e = .returned (.string (mkS (nm k))) ∧ w = w' := by
  rcases (show k = 1 ∨ k = 2 ∨ k = 3 ∨ k = 4 by omega) with rfl | rfl | rfl | rfl
  all_goals
    go_enter Tryd.func9, Tryd.ntmps9
    go_wp2
    go_ret
    exact ⟨rfl, rfl⟩
theorem level_text (k : Nat) (h1 : 1 ≤ k) (h4 : k ≤ 4) (w : World) : Calls Tryd.prog 6 #[.int .i64 k] w fun e w' => e = .returned (.string (mkS (nm k))) ∧ w = w' := by
  have K := Lib.hid (level_string k h1 h4 w)
  obtain ⟨r, hr⟩ : ∃ r, mkS (nm k) = r := ⟨_, rfl⟩
  rw [hr] at K ⊢
  clear hr
  go_enter Tryd.func6, Tryd.ntmps6
  go_wp2_with fail
  refine K.out.mono ?_
  rintro e w' ⟨rfl, rfl⟩
  go_wp2_with fail
  go_ret
  exact ⟨rfl, rfl⟩

/-- how a text's level is told -/
def TellLv (w : World) (l : List UInt8) (e : Ending) (w' : World) : Prop := e = .returned (if lvOf l = 0 then .tuple #[.bool false, .int .i64 2] else .tuple #[.bool true, .int .i64 (lvOf l : Nat)]) ∧ w = w'
def RelV (l : List UInt8) (v : Value) : Prop := ∃ k : Nat, 1 ≤ k ∧ k ≤ 5 ∧ v = .int .i64 k ∧ ∀ j, 1 ≤ j → j < k → hit l j = false
set_option maxRecDepth 20000 in
set_option maxHeartbeats 1600000 in
theorem level_from (s : ByteArray) (w : World) (hs : s.size ≤ 2147483647) (hp : plainB (strB s) = true) :
    Calls Tryd.prog 10 #[.string s] w (TellLv w (strB s)) := by
  have HP := Lib.hid hp
  have HL := Lib.hid (strB_length s)
  obtain ⟨l, hl⟩ : ∃ l, strB s = l := ⟨_, rfl⟩
  have HLL := Lib.hid hl
  have KE : Hid (∀ (k : Nat) (w : World), 1 ≤ k → k ≤ 4 → Calls Tryd.prog 12 #[.string s, .string (mkS (nm k))] w fun e w' => e = .returned (.bool (hit l k)) ∧ w = w') := Lib.hid fun k w h1 h4 => by
    refine (Tryd.strings_EqualFold s (mkS (nm k)) w (by omega) (fun j b hb => plain_at hp j b hb) (fun j b hb => ?_)).mono ?_
    · have hpn : plainB (nm k) = true := by rcases (show k = 1 ∨ k = 2 ∨ k = 3 ∨ k = 4 by omega) with rfl | rfl | rfl | rfl <;> decide
      exact plain_at hpn j b hb
    · rintro e w' ⟨rfl, rfl⟩
      exact ⟨by rw [← hl, ← fold_hit _ k h1 h4]; rfl, rfl⟩
  rw [hl]
  clear hp hl
  go_enter Tryd.func10, Tryd.ntmps10
  go_wp2_with fail
  go_loop [4] (RelV l) (fun v => 5 - (intOf v).toNat)
  case atStart => exact ⟨1, by omega, by omega, rfl, fun j h h' => by omega⟩
  case round =>
    obtain ⟨k, h1, h5, rfl, hn⟩ := hrel
    have HN := Lib.hid hn
    clear hn
    by_cases hk : k < 5
    · have hki : (k : Int) < 5 := by omega
      have K1 := Lib.hid (level_string k h1 (by omega) w)
      have K2 := Lib.hid (KE.out k w h1 (by omega))
      obtain ⟨r, hr⟩ : ∃ r, mkS (nm k) = r := ⟨_, rfl⟩
      rw [hr] at K1 K2
      clear hr
      cases hh : hit l k with
      | true =>
        rw [hh] at K2
        have HL2 := Lib.hid (lv_hit l k h1 (by omega) hh)
        clear hh
        go_wp2_with fail
        refine K1.out.mono ?_
        rintro e w' ⟨rfl, rfl⟩
        go_wp2_with fail
        refine K2.out.mono ?_
        rintro e w' ⟨rfl, rfl⟩
        go_wp2_with fail
        go_ret2
        exact ⟨by rw [HL2.out, if_neg (by omega)]; rfl, rfl⟩
      | false =>
        rw [hh] at K2
        have HF := Lib.hid hh
        clear hh
        go_wp2_with fail
        refine K1.out.mono ?_
        rintro e w' ⟨rfl, rfl⟩
        go_wp2_with fail
        refine K2.out.mono ?_
        rintro e w' ⟨rfl, rfl⟩
        go_wp2_with fail
        go_round
        case rel => exact ⟨k + 1, by omega, by omega, by go_num, fun j hj hj' => by
          rcases (show j < k ∨ j = k by omega) with h | rfl
          · exact HN.out j hj h
          · exact HF.out⟩
        case measure => simp [intOf]; omega
    · obtain rfl : k = 5 := by omega
      have HL2 := Lib.hid (lv_none l fun j h h' => HN.out j h (by omega))
      go_wp2_with fail
      go_ret2
      exact ⟨by rw [HL2.out, if_pos rfl]; rfl, rfl⟩
def TellOf (w : World) (l : List UInt8) (e : Ending) (w' : World) : Prop := e = .returned (if lvOf l = 0 then .tuple #[.int .i64 2, .bool false] else .tuple #[.int .i64 (lvOf l : Nat), .bool true]) ∧ w = w'
set_option maxHeartbeats 800000 in
theorem level_of (s : ByteArray) (w : World) (hs : s.size ≤ 2147483647) (hp : plainB (strB s) = true) :
    Calls Tryd.prog 7 #[.string s] w (TellOf w (strB s)) := by
  have K := level_from s w hs hp
  unfold TellLv at K
  by_cases h : lvOf (strB s) = 0
  · rw [if_pos h] at K
    have KK := Lib.hid K
    have HH := Lib.hid h
    clear K h hp
    go_enter Tryd.func7, Tryd.ntmps7
    go_wp2_with fail
    refine KK.out.mono ?_
    rintro e w' ⟨rfl, rfl⟩
    go_wp2_with fail
    go_ret2
    exact ⟨by rw [if_pos HH.out]; rfl, rfl⟩
  · rw [if_neg h] at K
    obtain ⟨x, hx⟩ : ∃ x, lvOf (strB s) = x := ⟨_, rfl⟩
    rw [hx] at K h
    have KK := Lib.hid K
    have HH := Lib.hid h
    have HX := Lib.hid hx
    clear K h hp hx
    go_enter Tryd.func7, Tryd.ntmps7
    go_wp2_with fail
    refine KK.out.mono ?_
    rintro e w' ⟨rfl, rfl⟩
    go_wp2_with fail
    go_ret2
    exact ⟨by rw [HX.out, if_neg HH.out]; rfl, rfl⟩
theorem mkS_eq (a b : List UInt8) : ((mkS a).toList == (mkS b).toList) = decide (a = b) := by
  rw [Go.ByteArray.toList_eq, Go.ByteArray.toList_eq, Bool.eq_iff_iff]
  simp [mkS]
set_option maxHeartbeats 800000 in
theorem same_any (s t : ByteArray) (w : World) (hs : s.size ≤ 2147483647) (ht : t.size ≤ 2147483647) :
    Calls Tryd.prog 8 #[.string s, .string t] w fun e w' => e = .returned (.bool (decide (lowL (strB s) = lowL (strB t)))) ∧ Below w.heap.size w w' := by
  have K1 := Lib.hid (lower_any s w hs)
  have HT := Lib.hid ht
  have HM := Lib.hid (mkS_eq (lowL (strB s)) (lowL (strB t)))
  go_enter Tryd.func8, Tryd.ntmps8
  go_wp2_with fail
  refine K1.out.mono ?_
  rintro e w1 ⟨rfl, hb⟩
  go_wp2_with fail
  refine (lower_any t w1 HT.out).mono ?_
  rintro e w2 ⟨rfl, hb2⟩
  go_wp2_with fail
  go_ret
  refine ⟨?_, hb.trans (hb2.mono hb.size)⟩
  rw [← HM.out]
  rfl

theorem levels_any (w : World) : Calls Tryd.prog 5 #[] w fun e w' => e = .returned (.agg #[.int .i64 1, .int .i64 2, .int .i64 3, .int .i64 4]) ∧ Below w.heap.size w w' := by
  go_enter Tryd.func5, Tryd.ntmps5
  go_wp2
  exact bodyPost_ret (v := .agg #[.int .i64 1, .int .i64 2, .int .i64 3, .int .i64 4]) (by simp [results, Tryd.results5, go_sem]) rfl ⟨rfl, (Below.refl _ _).alloc (Nat.le_refl _) _⟩

theorem strB_mkS (l : List UInt8) : strB (mkS l) = l := by simp [strB, mkS]
theorem mkS_size (l : List UInt8) : (mkS l).size = l.length := by rw [← strB_length, strB_mkS]
theorem nm_len (k : Nat) : (nm k).length ≤ 7 := by unfold nm; split <;> decide
theorem nm_own (k : Nat) (h1 : 1 ≤ k) (h4 : k ≤ 4) : lvOf (nm k) = k := lv_hit (nm k) k h1 h4 (by unfold hit; rw [low_nm k h1 h4]; simp)
theorem level_of_nm (k : Nat) (h1 : 1 ≤ k) (h4 : k ≤ 4) (w : World) : Calls Tryd.prog 7 #[.string (mkS (nm k))] w fun e w' => e = .returned (.tuple #[.int .i64 k, .bool true]) ∧ w = w' := by
  have K := level_of (mkS (nm k)) w (by rw [mkS_size]; have := nm_len k; omega) (by rw [strB_mkS]; rcases (show k = 1 ∨ k = 2 ∨ k = 3 ∨ k = 4 by omega) with rfl | rfl | rfl | rfl <;> decide)
  unfold TellOf at K
  rw [strB_mkS, nm_own k h1 h4, if_neg (by omega)] at K
  exact K
theorem same_nm (k : Nat) (h1 : 1 ≤ k) (h4 : k ≤ 4) (t : ByteArray) (w : World) (ht : t.size ≤ 2147483647) :
    Calls Tryd.prog 8 #[.string (mkS (nm k)), .string t] w fun e w' => e = .returned (.bool (hit (strB t) k)) ∧ Below w.heap.size w w' := by
  have K := same_any (mkS (nm k)) t w (by rw [mkS_size]; have := nm_len k; omega) ht
  rw [strB_mkS, low_nm k h1 h4] at K
  have e : decide (nm k = lowL (strB t)) = hit (strB t) k := by unfold hit; rw [decide_eq_decide]; exact eq_comm
  rwa [e] at K

/-- the head of the loop -/
def RelT (l : List UInt8) (g : Nat) (w : World) (v i : Value) (wr : World) : Prop := ∃ k : Nat, k ≤ 4 ∧ i = .int .i64 k ∧ v = .int .i64 (knownOf l k : Nat) ∧ Below g w wr
set_option maxRecDepth 20000 in
set_option maxHeartbeats 1600000 in
theorem levelsLaw_walk (s : ByteArray) (w : World) (hm : s.size ≤ maxLen) :
    Calls Tryd.prog 3 #[.string s] w fun e w' => e = .returned (.bool true) ∧ Below w.heap.size w w' := by
  unfold maxLen at hm
  by_cases hn : s.size ≤ 2147483647
  · have KP := isPlain_any s w hn
    cases hp : plainB (strB s) with
    | false =>
      rw [hp] at KP
      have HKP := Lib.hid KP
      clear KP hp
      go_enter Tryd.func3, Tryd.ntmps3
      go_wp2_with fail
      refine HKP.out.mono ?_
      rintro e w' ⟨rfl, rfl⟩
      go_wp2_with fail
      go_ret
      exact ⟨rfl, Below.refl _ _⟩
    | true =>
      rw [hp] at KP
      have HKP := Lib.hid KP
      have HPP := Lib.hid hp
      have HN := Lib.hid hn
      clear KP hp
      go_enter Tryd.func3, Tryd.ntmps3
      go_wp2_with fail
      refine HKP.out.mono ?_
      rintro e w' ⟨rfl, rfl⟩
      go_wp2_with fail
      refine (levels_any w).mono ?_
      rintro e w1 ⟨rfl, hb1⟩
      obtain ⟨w2, hw2⟩ : ∃ x, w1.alloc (.cells #[.int .i64 1, .int .i64 2, .int .i64 3, .int .i64 4] 23) = x := ⟨_, rfl⟩
      have hc1 : w2.cell? ⟨w1.heap.size, 1, none⟩ = some (.int .i64 2) := by rw [← hw2]; simp
      have hc0 : w2.cell? ⟨w1.heap.size, 0, none⟩ = some (.int .i64 1) := by rw [← hw2]; simp
      have hc2 : w2.cell? ⟨w1.heap.size, 2, none⟩ = some (.int .i64 3) := by rw [← hw2]; simp
      have hc3 : w2.cell? ⟨w1.heap.size, 3, none⟩ = some (.int .i64 4) := by rw [← hw2]; simp
      have hgl : w1.heap.size < w2.heap.size := by rw [← hw2]; simp
      have hb2 : Below w.heap.size w w2 := by rw [← hw2]; exact hb1.alloc hb1.size _
      obtain ⟨l, hl⟩ : ∃ l, strB s = l := ⟨_, rfl⟩
      have KS : Hid (∀ (k : Nat) (w : World), 1 ≤ k → k ≤ 4 → Calls Tryd.prog 8 #[.string (mkS (nm k)), .string s] w fun e w' => e = .returned (.bool (hit l k)) ∧ Below w.heap.size w w') := Lib.hid fun k w h1 h4 => by rw [← hl]; exact same_nm k h1 h4 s w hn
      have KO : Hid (∀ w : World, Calls Tryd.prog 7 #[.string s] w (TellOf w l)) := Lib.hid fun w => by rw [← hl]; exact level_of s w hn HPP.out
      have HC := Lib.hid hc1
      have HL := Lib.hid hl
      clear hl
      go_wp2_with fail
      have HW2 := Lib.hid hw2
      clear hw2 hc0 hc1 hc2 hc3
      go_loopw [4, 20] (fun v i wr => RelT l w2.heap.size w2 v i wr) (fun _ i _ => 4 - (intOf i).toNat)
      case atStart => exact ⟨0, by omega, rfl, rfl, Below.refl _ _⟩
      case round =>
        obtain ⟨k, hk, rfl, rfl, hb⟩ := hrel
        obtain ⟨kn, hkn⟩ : ∃ kn, knownOf l k = kn := ⟨_, rfl⟩
        rw [hkn]
        by_cases hlt : k < 4
        · obtain ⟨m, hmk⟩ : ∃ m, k + 1 = m := ⟨_, rfl⟩
          have hix : ∀ W : World, (Instr.index 23 (.agg #[.int .i64 1, .int .i64 2, .int .i64 3, .int .i64 4]) (.int .i64 k)).run Tryd.prog W = .ok (.int .i64 m) W := by
            intro W
            subst hmk
            rcases (show k = 0 ∨ k = 1 ∨ k = 2 ∨ k = 3 by omega) with rfl | rfl | rfl | rfl <;> kernel_rfl
          have hsum : IntKind.i64.wrap ((k : Int) + 1) = (m : Int) := by rw [IntKind.wrap_i64]; omega
          have hki : (k : Int) < 4 := by omega
          have K1 := Lib.hid (level_text m (by omega) (by omega) wr)
          have K2 := Lib.hid (level_of_nm m (by omega) (by omega) wr)
          have K3 := KS.out m wr (by omega) (by omega)
          obtain ⟨r, hr⟩ : ∃ r, mkS (nm m) = r := ⟨_, rfl⟩
          rw [hr] at K1 K2 K3
          have HM := Lib.hid hmk
          have HKN := Lib.hid hkn
          have hne : ((m : Int) != (m : Int)) = false := by simp
          cases hh : hit l m with
          | true =>
            rw [hh] at K3
            have HK3 := Lib.hid K3
            have HX : Hid (knownOf l (k + 1) = m) := Lib.hid (by rw [knownOf, hmk, hh, if_pos rfl])
            clear K3 hh hr hmk hkn
            go_wp2_with fail
            refine K1.out.mono ?_
            rintro e w' ⟨rfl, rfl⟩
            go_wp2_with fail
            refine K2.out.mono ?_
            rintro e w' ⟨rfl, rfl⟩
            go_wp2_with fail
            refine HK3.out.mono ?_
            rintro e w3 ⟨rfl, hb3⟩
            go_wp2_with fail
            go_roundw
            case rel => exact ⟨k + 1, by omega, by rw [HM.out], by rw [HX.out], hb.trans (hb3.mono hb.size)⟩
            case measure => have := HM.out; simp [intOf]; omega
          | false =>
            rw [hh] at K3
            have HK3 := Lib.hid K3
            have HX : Hid (knownOf l (k + 1) = kn) := Lib.hid (by rw [knownOf, hmk, hh, if_neg (by simp), hkn])
            clear K3 hh hr hmk hkn
            go_wp2_with fail
            refine K1.out.mono ?_
            rintro e w' ⟨rfl, rfl⟩
            go_wp2_with fail
            refine K2.out.mono ?_
            rintro e w' ⟨rfl, rfl⟩
            go_wp2_with fail
            refine HK3.out.mono ?_
            rintro e w3 ⟨rfl, hb3⟩
            go_wp2_with fail
            go_roundw
            case rel => exact ⟨k + 1, by omega, by rw [HM.out], by rw [HX.out], hb.trans (hb3.mono hb.size)⟩
            case measure => have := HM.out; simp [intOf]; omega
        · obtain rfl : k = 4 := by omega
          rw [known_lv] at hkn
          have K5 := KO.out wr
          unfold TellOf at K5
          rw [hkn] at K5
          have hc := (hb.cell (p := ⟨w1.heap.size, 1, none⟩) hgl).trans HC.out
          have hbe := hb2.trans (hb.mono hb2.size)
          have HKN := Lib.hid hkn
          clear hkn
          by_cases h0 : kn = 0
          · subst h0
            rw [if_pos rfl] at K5
            have HK5 := Lib.hid K5
            clear K5
            go_wp2_with fail
            refine HK5.out.mono ?_
            rintro e w' ⟨rfl, rfl⟩
            go_wp2_with fail
            go_ret
            exact ⟨rfl, hbe⟩
          · rw [if_neg h0] at K5
            have HK5 := Lib.hid K5
            have hz : ((kn : Int) == 0) = false := by simp; omega
            have hz2 : ¬ (kn : Int) = 0 := by omega
            clear K5 h0
            go_wp2_with fail
            refine HK5.out.mono ?_
            rintro e w' ⟨rfl, rfl⟩
            go_wp2_with fail
            go_ret
            exact ⟨rfl, hbe⟩
  · go_enter Tryd.func3, Tryd.ntmps3
    go_wp2
    go_ret
    exact ⟨rfl, Below.refl _ _⟩
end Go.Proofs.YtodbncgamjkmmaaDoor
