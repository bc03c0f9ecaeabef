/-
  spec.SnappyDecode by its plain function. Conditions: at most 2147483647 bytes.
-/
import Derived.Test.YthiklljhhnedkaaDoorSnElem
import Derived.Deep.LoopGhost
namespace Go.Proofs.YthiklljhhnedkaaDoor
open Go.RowKit

/-- what the reference gives: the class, and the bytes -/
def specRes (l : List UInt8) (most : Nat) : Option (List UInt8) × Nat :=
  if (snLength l).2.2 ≠ 0 then (none, (snLength l).2.2)
  else if most < (snLength l).1 then (none, 2)
  else snGo (l.drop (snLength l).2.1) (snLength l).1 0 []
/-- how the call ends -/
def SpecPost (w : World) (R : Option (List UInt8) × Nat) (e : Ending) (w' : World) : Prop :=
  Below w.heap.size w w' ∧ ((∃ r A c, R = (some r, 0) ∧ e = .returned (.tuple #[.slice A r.length c, .int .i64 0]) ∧ Sl w' w'.heap.size A r.length c r) ∨ (∃ k, R = (none, k) ∧ e = .returned (.tuple #[.slice none 0 0, .int .i64 k])))

theorem snElem_le {q : List UInt8} {k k' f : Nat} {o o' : List UInt8} (h : snElem q k o f = .next k' o') : k' ≤ q.length := by
  unfold snElem snLit snCpy at h
  split at h
  · split at h
    · split at h
      · cases h
      · injection h; omega
    · split at h
      · cases h
      · split at h
        · cases h
        · injection h; omega
  · split at h
    · cases h
    · split at h
      · cases h
      · split at h
        · cases h
        · injection h; omega
theorem and3_i64 (f : Nat) (h : f < 256) : bits .and .i64 (f : Int) 3 = ((f % 4 : Nat) : Int) := by
  have := (bits_nat .i64 62 (by decide) (fun n h0 h1 => by rw [IntKind.wrap_i64]; omega) f 3 (by omega) (by omega)).1
  rw [show f &&& 3 = f % 4 from Nat.and_two_pow_sub_one_eq_mod f 2] at this
  exact this

/-- the head of the loop -/
def RelS (l : List UInt8) (D : Nat) (A : Option Addr) (n c at0 L : Nat) (w : World) (R : Option (List UInt8) × Nat) (left : Nat) (wr : World) : Prop :=
  ∃ (k : Nat) (o : List UInt8), k ≤ (l.drop at0).length ∧ left = (l.drop at0).length - k ∧ RdSt wr D A n c (at0 + k) o ∧ Below D w wr ∧ Hid (snGo (l.drop at0) L k o = R)

set_option maxRecDepth 100000 in
set_option maxHeartbeats 3200000 in
theorem specDecode_good (A : Option Addr) (n c : Nat) (l : List UInt8) (w : World) (hs : Sl w w.heap.size A n c l) (hn : n ≤ 2147483647) (hc0 : (snLength l).2.2 = 0) (hL : (snLength l).1 ≤ 200000) :
    Calls Tryd.prog 7 #[.slice A n c, .int .i64 200000] w (SpecPost w (snGo (l.drop (snLength l).2.1) (snLength l).1 0 [])) := by
  obtain ⟨_, _, ha1, ha5, hal⟩ := snLength_good l hc0
  have K := snappyLength_any A n c l w hs hn
  rw [hc0] at K
  obtain ⟨L, hLe⟩ : ∃ L, (snLength l).1 = L := ⟨_, rfl⟩
  obtain ⟨at0, hae⟩ : ∃ at0, (snLength l).2.1 = at0 := ⟨_, rfl⟩
  rw [hLe] at K hL ⊢
  rw [hae] at K ha1 ha5 hal ⊢
  obtain ⟨R, hR⟩ : ∃ R, snGo (l.drop at0) L 0 [] = R := ⟨_, rfl⟩
  rw [hR]
  have HR := Lib.hid hR
  have K' := Lib.hid K
  obtain rfl := hs.len
  obtain ⟨g, o, rfl, hgB, hcell⟩ := hs.at_ (by omega)
  have HC := Lib.hid hcell
  have hm := hs.most
  have hcc := hs.cap
  have HS := Lib.hid hs
  have hLi : decide ((200000 : Int) < (L : Int)) = false := by simp; omega
  clear K hLe hae hR hcell hs hc0
  go_enter Tryd.func7, Tryd.ntmps7
  go_wp2_with fail
  refine K'.out.mono ?_
  rintro e w' ⟨rfl, rfl⟩
  go_wp2_with fail
  obtain ⟨D, hDe⟩ : ∃ D, w.heap.size = D := ⟨_, rfl⟩
  have hrow : (w.alloc (.cells (rdA (some ⟨g, o, none⟩) l.length c (at0 : Int) (.slice none 0 0) 0) 40 (0, 0))).heap[w.heap.size]? = some (.cells (rdA (some ⟨g, o, none⟩) l.length c (at0 : Int) (.slice none 0 0) 0) 40 (0, 0)) := heap_alloc_new _ _
  have hbw : Below w.heap.size w (w.alloc (.cells (rdA (some ⟨g, o, none⟩) l.length c (at0 : Int) (.slice none 0 0) 0) 40 (0, 0))) := (Below.refl _ w).alloc (Nat.le_refl _) _
  obtain ⟨w1, hw1⟩ : ∃ w1, w.alloc (.cells (rdA (some ⟨g, o, none⟩) l.length c (at0 : Int) (.slice none 0 0) 0) 40 (0, 0)) = w1 := ⟨_, rfl⟩
  rw [hw1, hDe] at hrow hbw
  rw [hw1, hDe]
  rw [hDe] at hgB HS
  have HDE := Lib.hid hDe
  have HROW := Lib.hid hrow
  clear hw1 hDe hrow
  go_loopg [10, 11] (l.drop at0).length (fun left s10 s11 wr => RelS l D (some ⟨g, o, none⟩) l.length c at0 L w R left wr)
  case atStart => exact ⟨0, [], by omega, by omega, ⟨_, HROW.out, Own.nil _ _⟩, hbw, HR⟩
  case round =>
    obtain ⟨k, o', hkl, rfl, ⟨v, hd, hown⟩, hb, HG⟩ := hrel
    obtain ⟨Ao, co, hv, hslo, _⟩ := hown.form
    subst hv
    obtain ⟨p, hp⟩ : ∃ p, at0 + k = p := ⟨_, rfl⟩
    rw [hp] at hd
    have hql : (l.drop at0).length = l.length - at0 := by simp
    have k0 := cell_of_row wr D 0 _ 40 (0, 0) hd.out
    have k1 := cell_of_row wr D 1 _ 40 (0, 0) hd.out
    have k2 := cell_of_row wr D 2 _ 40 (0, 0) hd.out
    have k3 := cell_of_row wr D 3 _ 40 (0, 0) hd.out
    have f1 := frozen_of_row wr D 1 _ 40 hd.out
    have HOW := Lib.hid hown
    have HP := Lib.hid hp
    by_cases hkq : k < (l.drop at0).length
    · have hpl : (p : Int) < (l.length : Int) := by omega
      by_cases ho : o'.length ≤ L
      · have hoi : (o'.length : Int) ≤ (L : Int) := by omega
        obtain ⟨f, hfe⟩ : ∃ f, (l.drop at0)[k].toNat = f := ⟨_, rfl⟩
        have hf256 : f < 256 := by rw [← hfe]; exact UInt8.toNat_lt _
        have hgd : ((l.drop at0).getD k 0).toNat = f := by rw [List.getD_eq_getElem?_getD, List.getElem?_eq_getElem hkq]; exact hfe
        have hcf := (hb.cell (p := ⟨g, o + p, none⟩) hgB).trans (HC.out p (by omega))
        have hfp : l[p].toNat = f := by rw [← hfe]; congr 1; simp [← hp]
        rw [hfp] at hcf
        have hw1 : IntKind.i64.wrap ((p : Int) + 1) = (p : Int) + 1 := by rw [IntKind.wrap_i64]; omega
        have hbb : Below D wr (wr.setCell ⟨D, 1, none⟩ (.int .i64 ((p : Int) + 1))) := bel40 (Below.refl _ _) _
        have hr2 : RdSt (wr.setCell ⟨D, 1, none⟩ (.int .i64 ((p : Int) + 1))) D (some ⟨g, o, none⟩) l.length c (at0 + (k + 1)) o' :=
          ⟨_, by rw [show ((at0 + (k + 1) : Nat) : Int) = (p : Int) + 1 by omega]; exact row40 hd, hown.set40⟩
        have hsl2 := (HS.out.below hb).below hbb
        have hfi : (f : Int) < 256 := by omega
        obtain ⟨r, hre⟩ : ∃ r, snElem (l.drop at0) k o' f = r := ⟨_, rfl⟩
        have HRE := Lib.hid hre
        have HGD := Lib.hid hgd
        clear hown hslo hp hfe hfp hgd
        rcases (show f % 4 = 0 ∨ f % 4 = 1 ∨ f % 4 = 2 ∨ f % 4 = 3 by omega) with ht | ht | ht | ht
        · have K := lit_elem D _ _ c l at0 k f o' _ hsl2 hr2 hn hkq hf256 ht (by omega)
          have h3 : bits .and .i64 (f : Int) 3 = 0 := by rw [and3_i64 f hf256, ht]; rfl
          have KK := Lib.hid K
          clear K ht hr2 hsl2 hre
          go_wp2_with fail
          refine KK.out.mono ?_
          rintro e w8 he
          rw [HRE.out] at he
          cases r with
          | bad =>
            obtain ⟨rfl, ⟨p8, o8, v8, hd8, _⟩, hb8⟩ := he
            have k8 := cell_of_row w8 D 3 _ 40 (0, 0) hd8.out
            have HGE := Lib.hid (HG.out.symm.trans (snGo_bad hkq ho (by rw [HGD.out]; exact HRE.out)))
            clear KK
            go_wp2_with fail
            go_ret2
            exact ⟨by rw [HDE.out]; exact hb.trans (hbb.trans hb8), .inr ⟨1, HGE.out, rfl⟩⟩
          | opn =>
            obtain ⟨rfl, ⟨R8, hd8, hR8⟩, hb8⟩ := he
            have k8 := (cell_of_row w8 D 3 _ 40 (0, 0) hd8).trans hR8
            have HGE := Lib.hid (HG.out.symm.trans (snGo_opn hkq ho (by rw [HGD.out]; exact HRE.out)))
            clear KK hd8 hR8
            go_wp2_with fail
            go_quiet (fail)
            go_wp2_with fail
            go_ret2
            exact ⟨by rw [HDE.out]; exact bel40d (hb.trans (hbb.trans hb8)) _, .inr ⟨2, HGE.out, rfl⟩⟩
          | next k' o9 =>
            obtain ⟨rfl, ⟨v8, hd8, ho8⟩, hb8⟩ := he
            have k8 := cell_of_row w8 D 3 _ 40 (0, 0) hd8.out
            have hk1 := snElem_on HRE.out
            have hk2 := snElem_le HRE.out
            have HGE := Lib.hid ((snGo_next hkq ho (by rw [HGD.out]; exact HRE.out)).symm.trans HG.out)
            have HD8 := Lib.hid hd8
            have HO8 := Lib.hid ho8
            clear KK hd8 ho8
            go_wp2_with fail
            go_roundg ((l.drop at0).length - k')
            case measure => omega
            case rel => exact ⟨k', o9, hk2, rfl, ⟨v8, HD8.out, HO8.out⟩, hb.trans (hbb.trans hb8), HGE⟩
        · have K := cop_elem D _ _ c l at0 k f o' _ hsl2 hr2 hn hkq hf256 (by omega) (by omega)
          rw [ht, show sizeOfTag 1 = 1 from rfl] at K
          have h3 : bits .and .i64 (f : Int) 3 = 1 := by rw [and3_i64 f hf256, ht]; rfl
          have KK := Lib.hid K
          clear K ht hr2 hsl2 hre
          go_wp2_with fail
          refine KK.out.mono ?_
          rintro e w8 he
          rw [HRE.out] at he
          cases r with
          | bad =>
            obtain ⟨rfl, ⟨p8, o8, v8, hd8, _⟩, hb8⟩ := he
            have k8 := cell_of_row w8 D 3 _ 40 (0, 0) hd8.out
            have HGE := Lib.hid (HG.out.symm.trans (snGo_bad hkq ho (by rw [HGD.out]; exact HRE.out)))
            clear KK
            go_wp2_with fail
            go_ret2
            exact ⟨by rw [HDE.out]; exact hb.trans (hbb.trans hb8), .inr ⟨1, HGE.out, rfl⟩⟩
          | opn =>
            obtain ⟨rfl, ⟨R8, hd8, hR8⟩, hb8⟩ := he
            have k8 := (cell_of_row w8 D 3 _ 40 (0, 0) hd8).trans hR8
            have HGE := Lib.hid (HG.out.symm.trans (snGo_opn hkq ho (by rw [HGD.out]; exact HRE.out)))
            clear KK hd8 hR8
            go_wp2_with fail
            go_quiet (fail)
            go_wp2_with fail
            go_ret2
            exact ⟨by rw [HDE.out]; exact bel40d (hb.trans (hbb.trans hb8)) _, .inr ⟨2, HGE.out, rfl⟩⟩
          | next k' o9 =>
            obtain ⟨rfl, ⟨v8, hd8, ho8⟩, hb8⟩ := he
            have k8 := cell_of_row w8 D 3 _ 40 (0, 0) hd8.out
            have hk1 := snElem_on HRE.out
            have hk2 := snElem_le HRE.out
            have HGE := Lib.hid ((snGo_next hkq ho (by rw [HGD.out]; exact HRE.out)).symm.trans HG.out)
            have HD8 := Lib.hid hd8
            have HO8 := Lib.hid ho8
            clear KK hd8 ho8
            go_wp2_with fail
            go_roundg ((l.drop at0).length - k')
            case measure => omega
            case rel => exact ⟨k', o9, hk2, rfl, ⟨v8, HD8.out, HO8.out⟩, hb.trans (hbb.trans hb8), HGE⟩
        · have K := cop_elem D _ _ c l at0 k f o' _ hsl2 hr2 hn hkq hf256 (by omega) (by omega)
          rw [ht, show sizeOfTag 2 = 2 from rfl] at K
          have h3 : bits .and .i64 (f : Int) 3 = 2 := by rw [and3_i64 f hf256, ht]; rfl
          have KK := Lib.hid K
          clear K ht hr2 hsl2 hre
          go_wp2_with fail
          refine KK.out.mono ?_
          rintro e w8 he
          rw [HRE.out] at he
          cases r with
          | bad =>
            obtain ⟨rfl, ⟨p8, o8, v8, hd8, _⟩, hb8⟩ := he
            have k8 := cell_of_row w8 D 3 _ 40 (0, 0) hd8.out
            have HGE := Lib.hid (HG.out.symm.trans (snGo_bad hkq ho (by rw [HGD.out]; exact HRE.out)))
            clear KK
            go_wp2_with fail
            go_ret2
            exact ⟨by rw [HDE.out]; exact hb.trans (hbb.trans hb8), .inr ⟨1, HGE.out, rfl⟩⟩
          | opn =>
            obtain ⟨rfl, ⟨R8, hd8, hR8⟩, hb8⟩ := he
            have k8 := (cell_of_row w8 D 3 _ 40 (0, 0) hd8).trans hR8
            have HGE := Lib.hid (HG.out.symm.trans (snGo_opn hkq ho (by rw [HGD.out]; exact HRE.out)))
            clear KK hd8 hR8
            go_wp2_with fail
            go_quiet (fail)
            go_wp2_with fail
            go_ret2
            exact ⟨by rw [HDE.out]; exact bel40d (hb.trans (hbb.trans hb8)) _, .inr ⟨2, HGE.out, rfl⟩⟩
          | next k' o9 =>
            obtain ⟨rfl, ⟨v8, hd8, ho8⟩, hb8⟩ := he
            have k8 := cell_of_row w8 D 3 _ 40 (0, 0) hd8.out
            have hk1 := snElem_on HRE.out
            have hk2 := snElem_le HRE.out
            have HGE := Lib.hid ((snGo_next hkq ho (by rw [HGD.out]; exact HRE.out)).symm.trans HG.out)
            have HD8 := Lib.hid hd8
            have HO8 := Lib.hid ho8
            clear KK hd8 ho8
            go_wp2_with fail
            go_roundg ((l.drop at0).length - k')
            case measure => omega
            case rel => exact ⟨k', o9, hk2, rfl, ⟨v8, HD8.out, HO8.out⟩, hb.trans (hbb.trans hb8), HGE⟩
        · have K := cop_elem D _ _ c l at0 k f o' _ hsl2 hr2 hn hkq hf256 (by omega) (by omega)
          rw [ht, show sizeOfTag 3 = 4 from rfl] at K
          have h3 : bits .and .i64 (f : Int) 3 = 3 := by rw [and3_i64 f hf256, ht]; rfl
          have KK := Lib.hid K
          clear K ht hr2 hsl2 hre
          go_wp2_with fail
          refine KK.out.mono ?_
          rintro e w8 he
          rw [HRE.out] at he
          cases r with
          | bad =>
            obtain ⟨rfl, ⟨p8, o8, v8, hd8, _⟩, hb8⟩ := he
            have k8 := cell_of_row w8 D 3 _ 40 (0, 0) hd8.out
            have HGE := Lib.hid (HG.out.symm.trans (snGo_bad hkq ho (by rw [HGD.out]; exact HRE.out)))
            clear KK
            go_wp2_with fail
            go_ret2
            exact ⟨by rw [HDE.out]; exact hb.trans (hbb.trans hb8), .inr ⟨1, HGE.out, rfl⟩⟩
          | opn =>
            obtain ⟨rfl, ⟨R8, hd8, hR8⟩, hb8⟩ := he
            have k8 := (cell_of_row w8 D 3 _ 40 (0, 0) hd8).trans hR8
            have HGE := Lib.hid (HG.out.symm.trans (snGo_opn hkq ho (by rw [HGD.out]; exact HRE.out)))
            clear KK hd8 hR8
            go_wp2_with fail
            go_quiet (fail)
            go_wp2_with fail
            go_ret2
            exact ⟨by rw [HDE.out]; exact bel40d (hb.trans (hbb.trans hb8)) _, .inr ⟨2, HGE.out, rfl⟩⟩
          | next k' o9 =>
            obtain ⟨rfl, ⟨v8, hd8, ho8⟩, hb8⟩ := he
            have k8 := cell_of_row w8 D 3 _ 40 (0, 0) hd8.out
            have hk1 := snElem_on HRE.out
            have hk2 := snElem_le HRE.out
            have HGE := Lib.hid ((snGo_next hkq ho (by rw [HGD.out]; exact HRE.out)).symm.trans HG.out)
            have HD8 := Lib.hid hd8
            have HO8 := Lib.hid ho8
            clear KK hd8 ho8
            go_wp2_with fail
            go_roundg ((l.drop at0).length - k')
            case measure => omega
            case rel => exact ⟨k', o9, hk2, rfl, ⟨v8, HD8.out, HO8.out⟩, hb.trans (hbb.trans hb8), HGE⟩
      · have hoi : decide ((o'.length : Int) ≤ (L : Int)) = false := by simp; omega
        have hoj : ((o'.length : Int) != (L : Int)) = true := by simp; omega
        have HGE := Lib.hid (HG.out.symm.trans (snGo_long (by omega)))
        clear hown hslo hp
        go_wp2_with fail
        go_ret2
        exact ⟨by rw [HDE.out]; exact hb, .inr ⟨1, HGE.out, rfl⟩⟩
    · have hpl : decide ((p : Int) < (l.length : Int)) = false := by simp; omega
      have hpn : decide (p < l.length) = false := by simp; omega
      have hpm : ¬ p < l.length := by omega
      have hge := HG.out.symm.trans (snGo_end (by omega))
      by_cases ho : o'.length = L
      · rw [if_pos ho] at hge
        have HGE := Lib.hid hge
        have hoj : ((o'.length : Int) != (L : Int)) = false := by simp; omega
        have HSO := Lib.hid hslo
        clear hown hslo hp hge ho
        go_wp2_with fail
        go_ret2
        exact ⟨by rw [HDE.out]; exact hb, .inl ⟨o', _, _, HGE.out, rfl, HSO.out⟩⟩
      · rw [if_neg ho] at hge
        have HGE := Lib.hid hge
        have hoj : ((o'.length : Int) != (L : Int)) = true := by simp; omega
        clear hown hslo hp hge
        go_wp2_with fail
        go_ret2
        exact ⟨by rw [HDE.out]; exact hb, .inr ⟨1, HGE.out, rfl⟩⟩

set_option maxRecDepth 100000 in
set_option maxHeartbeats 1600000 in
theorem specDecode_no (A : Option Addr) (n c : Nat) (l : List UInt8) (w : World) (hs : Sl w w.heap.size A n c l) (hn : n ≤ 2147483647) (k : Nat) (hc : (snLength l).2.2 = k) (hk : k = 1 ∨ k = 2) :
    Calls Tryd.prog 7 #[.slice A n c, .int .i64 200000] w (SpecPost w (none, k)) := by
  have K := snappyLength_any A n c l w hs hn
  rw [hc] at K
  obtain ⟨x, hx⟩ : ∃ x, (snLength l).1 = x := ⟨_, rfl⟩
  obtain ⟨y, hy⟩ : ∃ y, (snLength l).2.1 = y := ⟨_, rfl⟩
  rw [hx, hy] at K
  have K' := Lib.hid K
  clear K hx hy hc hs
  rcases hk with rfl | rfl
  all_goals
    go_enter Tryd.func7, Tryd.ntmps7
    go_wp2_with fail
    refine K'.out.mono ?_
    rintro e w' ⟨rfl, rfl⟩
    go_wp2_with fail
    go_ret2
    exact ⟨Below.refl _ _, .inr ⟨_, rfl, rfl⟩⟩
set_option maxRecDepth 100000 in
set_option maxHeartbeats 1600000 in
theorem specDecode_large (A : Option Addr) (n c : Nat) (l : List UInt8) (w : World) (hs : Sl w w.heap.size A n c l) (hn : n ≤ 2147483647) (hc : (snLength l).2.2 = 0) (hL : 200000 < (snLength l).1) :
    Calls Tryd.prog 7 #[.slice A n c, .int .i64 200000] w (SpecPost w (none, 2)) := by
  have K := snappyLength_any A n c l w hs hn
  rw [hc] at K
  obtain ⟨x, hx⟩ : ∃ x, (snLength l).1 = x := ⟨_, rfl⟩
  obtain ⟨y, hy⟩ : ∃ y, (snLength l).2.1 = y := ⟨_, rfl⟩
  rw [hx, hy] at K
  rw [hx] at hL
  have hLi : decide ((200000 : Int) < (x : Int)) = true := by simp; omega
  have K' := Lib.hid K
  clear K hx hy hc hs hL
  go_enter Tryd.func7, Tryd.ntmps7
  go_wp2_with fail
  refine K'.out.mono ?_
  rintro e w' ⟨rfl, rfl⟩
  go_wp2_with fail
  go_ret2
  exact ⟨Below.refl _ _, .inr ⟨_, rfl, rfl⟩⟩
theorem specDecode_any (A : Option Addr) (n c : Nat) (l : List UInt8) (w : World) (hs : Sl w w.heap.size A n c l) (hn : n ≤ 2147483647) :
    Calls Tryd.prog 7 #[.slice A n c, .int .i64 200000] w (SpecPost w (specRes l 200000)) := by
  unfold specRes
  rcases snLength_class l with h | h | h
  · rw [if_neg (by rw [h]; simp)]
    by_cases hL : 200000 < (snLength l).1
    · rw [if_pos hL]; exact specDecode_large A n c l w hs hn h hL
    · rw [if_neg hL]; exact specDecode_good A n c l w hs hn h (by omega)
  · rw [if_pos (by rw [h]; simp), h]; exact specDecode_no A n c l w hs hn 1 h (.inl rfl)
  · rw [if_pos (by rw [h]; simp), h]; exact specDecode_no A n c l w hs hn 2 h (.inr rfl)
end Go.Proofs.YthiklljhhnedkaaDoor
