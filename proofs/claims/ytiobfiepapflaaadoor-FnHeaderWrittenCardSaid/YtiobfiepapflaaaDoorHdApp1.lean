/-
  frameHeader.appendTo. Conditions: those of the theorem.
-/
import Derived.Test.YtiobfiepapflaaaDoorHdRel
import Derived.Test.YtiobfiepapflaaaDoorShelf
import Derived.Test.YtiobfiepapflaaaDoorStruct
import Derived.Deep.CutRange
import Derived.Deep.CutBlock
namespace Go.Proofs.YtiobfiepapflaaaDoor
open Go.RowKit

set_option maxRecDepth 100000 in
set_option maxHeartbeats 3200000 in
theorem appendTo_1 (zi Wi Di : Int) (z W e D : Nat) (s k : Bool) (w : World) (hzi : zi = z) (hWi : Wi = W) (hDi : Di = D) (hzc : 256 ≤ z ∧ z < 65792) (hz : z < 18446744073709551616) (hW : W < 4294967296) (hWe : s = false → W = 2 ^ e ∧ 10 ≤ e ∧ e ≤ 31) (hD : D < 4294967296) :
    Calls Tryd.prog 19 #[.agg (fhR zi Wi s k Di), .slice none 0 0] w fun en w' => ∃ A c, en = .returned (.slice A (hdOut z e s k D).length c) ∧ Sl w' w'.heap.size A (hdOut z e s k D).length c (hdOut z e s k D) ∧ Below w.heap.size w w' := by
  obtain ⟨P, hP⟩ : ∃ P, w.heap.size = P := ⟨_, rfl⟩
  obtain ⟨w0, hw0⟩ : ∃ x, w.alloc (.cells (fhR zi Wi s k Di) 61) = x := ⟨_, rfl⟩
  have hR0 : w0.heap[P]? = some (.cells (fhR zi Wi s k Di) 61 (0, 0)) := by rw [← hw0, ← hP]; exact heap_alloc_new _ _
  have hz0 : w0.heap.size = P + 1 := by rw [← hw0, ← hP]; exact Array.size_push ..
  have hb0 : Below P w w0 := by rw [← hw0, ← hP]; exact (Below.refl _ _).alloc (Nat.le_refl _) _
  obtain ⟨B, hB⟩ : ∃ B, P + 1 = B := ⟨_, rfl⟩
  rw [hB] at hz0
  have HR0 := Lib.hid hR0
  have HZ0 := Lib.hid hz0
  have HB := Lib.hid hB
  have HWE := Lib.hid hWe
  have HZI := Lib.hid hzi
  have HWI := Lib.hid hWi
  have HDI := Lib.hid hDi
  have HZ := Lib.hid hz
  have HZC := Lib.hid hzc
  have HW := Lib.hid hW
  have HDD := Lib.hid hD
  have hPB : P < B := by omega
  clear hzc hR0 hz0 hWe hB hzi hWi hDi hz hW hD
  go_enter Tryd.func19, Tryd.ntmps19
  go_upto_if 13 with (at_builtin; refine wpList_append_strd rfl (.tmp 10) (.const (.string ⟨#[40, 181, 47, 253]⟩)) rfl B rfl ⟨#[40, 181, 47, 253]⟩ magicF rfl rfl rfl (by decide) (by rw [HZ0.out]; exact Nat.le_refl _) 4 rfl ?_; intro A1 c1 w1 hap1; have hr1 : w1.heap[P]? = some (.cells (fhR zi Wi s k Di) 61 (0, 0)) := (hap1.bel.block P hPB).trans HR0.out; have qz : w1.cell? ⟨P, 0, none⟩ = (some (.int .u64 zi)) := cell_of_row w1 P 0 _ _ (0, 0) hr1; have qW : w1.cell? ⟨P, 1, none⟩ = (some (.int .u32 Wi)) := cell_of_row w1 P 1 _ _ (0, 0) hr1; have qs : w1.cell? ⟨P, 2, none⟩ = (some (.bool s)) := cell_of_row w1 P 2 _ _ (0, 0) hr1; have qk : w1.cell? ⟨P, 3, none⟩ = (some (.bool k)) := cell_of_row w1 P 3 _ _ (0, 0) hr1; have qD : w1.cell? ⟨P, 4, none⟩ = (some (.int .u32 Di)) := cell_of_row w1 P 4 _ _ (0, 0) hr1; have HR1 := Lib.hid hr1; clear hr1)
  have Hb1 := Lib.hid (hb0.trans (hap1.bel.mono (Nat.le_of_lt hPB)))
  have b04 : bits .or .u8 0 4 = 4 := by kernel_rfl
  have b032 : bits .or .u8 0 32 = 32 := by kernel_rfl
  have b432 : bits .or .u8 4 32 = 36 := by kernel_rfl
  go_cut [5] from 14 to 15 (fun v5 wx => v5 = .int .u8 ((4 * bN k : Nat) : Int) ∧ wx = w1)
  case first =>
    cases k
    · go_wp2_with fail
      go_meet
      exact ⟨rfl, rfl⟩
    · go_wp2_with fail
      go_meet
      exact ⟨rfl, rfl⟩
  case rest =>
    obtain ⟨rfl, rfl⟩ := hcut
    clear b04 b032 b432
    obtain ⟨x, hx⟩ : ∃ x : Int, ((4 * bN k : Nat) : Int) = x := ⟨_, rfl⟩
    have hx04 : x = 0 ∨ x = 4 := by cases k <;> simp [bN] at hx <;> omega
    have o32 : bits .or .u8 x 32 = x + 32 := by rcases hx04 with rfl | rfl <;> kernel_rfl
    have HX := Lib.hid hx
    rw [hx]
    have HX04 := Lib.hid hx04
    clear hx hx04
    go_upto_if 17 with fail
    go_cut [5] from 18 to 19 (fun v5 wx => v5 = .int .u8 ((4 * bN k + 32 * bN s : Nat) : Int) ∧ wx = wc)
    case first =>
      cases s
      · go_wp2_with fail
        go_meet
        exact ⟨by rw [← HX.out]; simp [bN], rfl⟩
      · go_wp2_with fail
        go_meet
        exact ⟨by rw [← HX.out]; simp [bN], rfl⟩
    case rest =>
      obtain ⟨rfl, rfl⟩ := hcut
      obtain ⟨y, hy⟩ : ∃ y : Int, ((4 * bN k + 32 * bN s : Nat) : Int) = y := ⟨_, rfl⟩
      have hy4 : y = 0 ∨ y = 4 ∨ y = 32 ∨ y = 36 := by cases k <;> cases s <;> simp [bN] at hy <;> omega
      have o1 : bits .or .u8 y 1 = y + 1 := by rcases hy4 with rfl | rfl | rfl | rfl <;> kernel_rfl
      have o2 : bits .or .u8 y 2 = y + 2 := by rcases hy4 with rfl | rfl | rfl | rfl <;> kernel_rfl
      have o3 : bits .or .u8 y 3 = y + 3 := by rcases hy4 with rfl | rfl | rfl | rfl <;> kernel_rfl
      have HY := Lib.hid hy
      have HY4 := Lib.hid hy4
      rw [hy]
      clear hy hy4 o32
      have HAP := Lib.hid hap1
      clear hap1
      go_upto_if 22 with fail
      go_cut [5, 6, 7] from 22 to 52 (fun v5 v6 _ wx => RelA zi Wi Di D s k P B w A1 c1 v5 v6 wx)
      case first =>
        obtain ⟨g1, hg1, hg1B, hg1s⟩ := HAP.out.at_ (by omega)
        have HG1 := Lib.hid hg1
        have hz1 : B ≤ wc.heap.size := HAP.out.le
        by_cases d0 : D = 0
        · subst d0
          have di : Di = 0 := by have := HDI.out; omega
          subst di
          go_wp2_with fail
          go_meet
          exact ⟨by rw [show fl0 s k 0 = 4 * bN k + 32 * bN s from rfl, HY.out], 0, [], ⟨A1, c1, rfl, HAP.out.own, HR1.out, Hb1.out, hz1, fun h => absurd h (by omega)⟩, .inl ⟨rfl, rfl⟩⟩
        · have d0i : (0 : Int) < Di := by have := HDI.out; omega
          obtain ⟨T, hT⟩ : ∃ T, wc.heap.size = T := ⟨_, rfl⟩
          have hPT : P < T := by rw [← hT]; omega
          obtain ⟨wd, hwd⟩ : ∃ x, wc.alloc (.cells #[.int .u8 0, .int .u8 0, .int .u8 0, .int .u8 0] 59) = x := ⟨_, rfl⟩
          have hTd : wd.heap[T]? = some (.cells (Lib.byteCells [0, 0, 0, 0]).toArray 59 (0, 0)) := by rw [← hwd, ← hT]; exact heap_alloc_new _ _
          have hbd : Below T wc wd := by rw [← hwd, ← hT]; exact (Below.refl _ _).alloc (Nat.le_refl _) _
          have HRd := Lib.hid ((hbd.block P hPT).trans HR1.out)
          have qD' : wd.cell? ⟨P, 4, none⟩ = some (.int .u32 Di) := cell_of_row wd P 4 _ _ (0, 0) HRd.out
          have t0 : wd.cell? ⟨T, 0, none⟩ = some (.int .u8 0) := cell_of_row wd T 0 _ _ (0, 0) hTd
          have f0 : wd.frozen? ⟨T, 0, none⟩ = false := frozen_of_row wd T 0 _ _ hTd
          have hBT : B ≤ T := by rw [← hT]; exact hz1
          have hgT : g1 < T := by rw [← hT]; exact hg1s
          have HTd := Lib.hid hTd
          have HOd := Lib.hid (HAP.out.own.below (by rw [hT]; exact hbd))
          have Hbd := Lib.hid (Hb1.out.trans (hbd.mono (Nat.le_of_lt hPT)))
          have hszd : T < wd.heap.size := lt_of_blk hTd
          have HT := Lib.hid hT
          clear hTd hg1 qz qW qs qk qD
          by_cases d1 : D < 256
          · have d1i : Di < 256 := by have := HDI.out; omega
            have e1 : IntKind.u8.wrap Di = Di := by rw [IntKind.wrap_u8]; omega
            go_wp2_with fail
            go_meet
            have hdi := HDI.out
            refine ⟨by rw [show fl0 s k D = 4 * bN k + 32 * bN s + 1 by unfold fl0 dcode; rw [if_neg d0, if_pos d1], ← HY.out]; rfl, T, [UInt8.ofNat D, 0, 0, 0], ⟨A1, c1, rfl, ?_, (heap_set_ne (by omega)).trans HRd.out, Hbd.out.setCell (p := ⟨T, 0, none⟩) (Nat.le_of_lt hPT) _, by simp; omega, fun _ => ⟨?_, ?_, hBT⟩⟩, .inr ⟨by omega, ?_, rfl, ?_⟩⟩
            · have ho := HOd.out
              rw [HG1.out] at ho ⊢
              exact ho.keepAt (heap_set_ne (by omega))
            · rw [heap_set_eq HTd.out]
              simp [Lib.byteCells]
              omega
            · intro g hg
              rw [HG1.out] at hg
              simp [Value.ownBlock] at hg
              omega
            · rw [show dn D = 1 by unfold dn; rw [if_neg d0, if_pos d1]]
            · rw [show dn D = 1 by unfold dn; rw [if_neg d0, if_pos d1]]
              simp [Lib.leBytes, Nat.mod_eq_of_lt d1]
          · have d1i : (256 : Int) ≤ Di := by have := HDI.out; omega
            have HD1 := Lib.hid d1
            clear d1
            by_cases d2 : D < 65536
            · have d2i : Di < 65536 := by have := HDI.out; omega
              have e1 : IntKind.u16.wrap Di = Di := by rw [IntKind.wrap_u16]; omega
              have K := Lib.hid (put16_blk T 59 D d2 wd.drew HTd.out)
              rw [← HDI.out] at K
              have HD2 := Lib.hid d2
              clear d2
              go_wp2_with fail
              go_region_with (go_at_call 20; refine K.out.mono ?_; rintro en w2 ⟨rfl, hr2, hb2⟩)
              all_goals
                have hb2' := below_drew'' hb2
                have HR2 := Lib.hid hr2
                clear hr2
                go_wp2_with fail
                go_meet
                refine ⟨by rw [show fl0 s k D = 4 * bN k + 32 * bN s + 2 by unfold fl0 dcode; rw [if_neg d0, if_neg HD1.out, if_pos HD2.out], ← HY.out]; rfl, T, (Lib.leBytes 2 D ++ [0, 0]), ⟨A1, c1, rfl, ?_, (hb2'.block P hPT).trans HRd.out, Hbd.out.trans (hb2'.mono (Nat.le_of_lt hPT)), by have := hb2'.size; omega, fun _ => ⟨HR2.out, ?_, hBT⟩⟩, .inr ⟨by omega, ?_, by simp [Lib.leBytes], ?_⟩⟩
                · have ho := HOd.out
                  rw [HG1.out] at ho ⊢
                  exact ho.keepAt (hb2'.block g1 hgT)
                · intro g hg
                  rw [HG1.out] at hg
                  simp [Value.ownBlock] at hg
                  omega
                · rw [show dn D = 2 by unfold dn; rw [if_neg d0, if_neg HD1.out, if_pos HD2.out]]
                · rw [show dn D = 2 by unfold dn; rw [if_neg d0, if_neg HD1.out, if_pos HD2.out]]
                  simp [Lib.leBytes]
            · have d2i : (65536 : Int) ≤ Di := by have := HDI.out; omega
              have K := Lib.hid (put32_blk T 59 D HDD.out wd.drew HTd.out)
              rw [← HDI.out] at K
              have HD2 := Lib.hid d2
              clear d2
              go_wp2_with fail
              go_region_with (go_at_call 21; refine K.out.mono ?_; rintro en w2 ⟨rfl, hr2, hb2⟩)
              all_goals
                have hb2' := below_drew'' hb2
                have HR2 := Lib.hid hr2
                clear hr2
                go_wp2_with fail
                go_meet
                refine ⟨by rw [show fl0 s k D = 4 * bN k + 32 * bN s + 3 by unfold fl0 dcode; rw [if_neg d0, if_neg HD1.out, if_neg HD2.out], ← HY.out]; rfl, T, (Lib.leBytes 4 D), ⟨A1, c1, rfl, ?_, (hb2'.block P hPT).trans HRd.out, Hbd.out.trans (hb2'.mono (Nat.le_of_lt hPT)), by have := hb2'.size; omega, fun _ => ⟨HR2.out, ?_, hBT⟩⟩, .inr ⟨by omega, ?_, by simp [Lib.leBytes], ?_⟩⟩
                · have ho := HOd.out
                  rw [HG1.out] at ho ⊢
                  exact ho.keepAt (hb2'.block g1 hgT)
                · intro g hg
                  rw [HG1.out] at hg
                  simp [Value.ownBlock] at hg
                  omega
                · rw [show dn D = 4 by unfold dn; rw [if_neg d0, if_neg HD1.out, if_neg HD2.out]]
                · rw [show dn D = 4 by unfold dn; rw [if_neg d0, if_neg HD1.out, if_neg HD2.out]]
                  simp [Lib.leBytes]
      case rest =>
        obtain ⟨rfl, T, R, hds, hdict⟩ := hcut
        have HDC := Lib.hid hdict
        obtain ⟨y0, hy0⟩ : ∃ y0 : Int, ((fl0 s k D : Nat) : Int) = y0 := ⟨_, rfl⟩
        have hy1 : fl0 s k D < 40 := by unfold fl0 bN dcode; (repeat' split) <;> omega
        rw [hy0]
        have HY0 := Lib.hid hy0
        obtain ⟨A1', c1', e1, hO1⟩ := hds.own
        have hds' := hds
        obtain ⟨_, _, _, _, hR1, _, hB1, _⟩ := hds
        obtain rfl : A1 = A1' := by injection e1
        obtain rfl : c1 = c1' := by injection e1
        have qz : wc.cell? ⟨P, 0, none⟩ = some (.int .u64 zi) := cell_of_row wc P 0 _ _ (0, 0) hR1; have qW : wc.cell? ⟨P, 1, none⟩ = some (.int .u32 Wi) := cell_of_row wc P 1 _ _ (0, 0) hR1; have qs : wc.cell? ⟨P, 2, none⟩ = some (.bool s) := cell_of_row wc P 2 _ _ (0, 0) hR1; have qk : wc.cell? ⟨P, 3, none⟩ = some (.bool k) := cell_of_row wc P 3 _ _ (0, 0) hR1; have qD : wc.cell? ⟨P, 4, none⟩ = some (.int .u32 Di) := cell_of_row wc P 4 _ _ (0, 0) hR1
        have HDS := Lib.hid hds'
        have HO1 := Lib.hid hO1
        have HY1 := Lib.hid hy1
        clear hds' hO1 hy0 hdict e1 hR1 hy1 o1 o2 o3
        obtain ⟨n0, hn0⟩ : ∃ n, wc.heap.size = n := ⟨_, rfl⟩
        rw [hn0] at hB1
        have HN0 := Lib.hid hn0
        clear hn0
        have hzc := HZC.out
        as_aux_lemma =>
          have t1 : (256 : Int) ≤ zi := by have := HZI.out; omega
          have t2 : zi < 65792 := by have := HZI.out; omega
          have t3 : zi < 4294967295 := by have := HZI.out; omega
          obtain ⟨fb, hfb⟩ : ∃ b, UInt8.ofNat (fl0 s k D + 64 * fcs z) = b := ⟨_, rfl⟩
          have hfc : fcs z = 1 := by unfold fcs; (repeat' split) <;> omega
          have ho : bits .or .u8 y0 64 = (fb.toNat : Int) := by
            rw [← hfb, hfc, ← HY0.out]
            exact or_flags _ 1 (by decide) HY1.out
          obtain ⟨wa, hwa⟩ : ∃ x, wc.alloc (.cells #[.int .u8 (fb.toNat : Int)] 5) = x := ⟨_, rfl⟩
          have HSa := Lib.hid (sl_lit wc wa [fb] hwa.symm (by simp))
          have HOa : Hid (Own wa B (.slice A1 4 c1) magicF) := by rw [← hwa]; exact Lib.hid (HO1.out.alloc _)
          have hsa : B ≤ wa.heap.size := by rw [← hwa]; simp; have := HN0.out; omega
          have hba : Below wc.heap.size wc wa := by rw [← hwa]; exact below_new _ _
          have HFB := Lib.hid hfb
          have HFC := Lib.hid hfc
          clear hfb hfc
          go_upto_if 78 with (at_builtin; refine wpList_append_sld rfl (.tmp 72) (.tmp 74) rfl B (.slice A1 4 c1) magicF [fb] rfl HOa.out wa.heap.size (some ⟨wc.heap.size, 0, none⟩) 1 1 rfl HSa.out (by simp [magicF]) hsa 5 (magicF ++ [fb]) rfl rfl ?_; intro A2 c2 w2 hap2; have hd2 := HDS.out.app hPB hba hap2; have HD2 := Lib.hid hd2; obtain ⟨_, _, _, _, hr2, _⟩ := hd2; have qz : w2.cell? ⟨P, 0, none⟩ = some (.int .u64 zi) := cell_of_row w2 P 0 _ _ (0, 0) hr2; have qW : w2.cell? ⟨P, 1, none⟩ = some (.int .u32 Wi) := cell_of_row w2 P 1 _ _ (0, 0) hr2; have qs : w2.cell? ⟨P, 2, none⟩ = some (.bool s) := cell_of_row w2 P 2 _ _ (0, 0) hr2; have qk : w2.cell? ⟨P, 3, none⟩ = some (.bool k) := cell_of_row w2 P 3 _ _ (0, 0) hr2; have qD : w2.cell? ⟨P, 4, none⟩ = some (.int .u32 Di) := cell_of_row w2 P 4 _ _ (0, 0) hr2)
          clear hwa ho
          have HAP2 := Lib.hid hap2.app.own
          have hB2 := hap2.app.le
          clear hap2 hr2 qk
          go_cut [1, 9] from 78 to 89 (fun v1 _ wx => Dst (fhR zi Wi s k Di) P B w D T R ((magicF ++ [fb]) ++ winB s e) v1 wx)
          case first =>
            cases s
            · obtain ⟨hw2e, he1, he2⟩ := HWE.out rfl
              obtain ⟨ei, hei⟩ : ∃ ei : Int, (e : Int) = ei := ⟨_, rfl⟩
              have hbl : ((Lib.bitLen (Wi - 1).toNat : Nat) : Int) = ei := by rw [HWI.out, hw2e, ← hei]; exact bitLen_pow e he1 he2
              have hW1 : 0 ≤ Wi - 1 ∧ Wi - 1 ≤ 4294967295 := by have := HWI.out; have := HW.out; have : 0 < 2 ^ e := Nat.two_pow_pos e; omega
              have s0 : IntKind.u32.wrap (Wi - 1) = Wi - 1 := by rw [IntKind.wrap_u32]; omega
              have s1 : IntKind.i64.wrap (ei - 10) = ei - 10 := by rw [IntKind.wrap_i64]; omega
              have s2 : IntKind.i64.wrap ((ei - 10) * 8) = (ei - 10) * 8 := by rw [IntKind.wrap_i64]; omega
              obtain ⟨wb, hwb⟩ : ∃ b, UInt8.ofNat ((e - 10) * 8) = b := ⟨_, rfl⟩
              have s3 : IntKind.u8.wrap ((ei - 10) * 8) = (wb.toNat : Int) := by rw [← hwb, IntKind.wrap_u8, UInt8.toNat_ofNat']; omega
              have KL : Hid (Calls Tryd.prog 22 #[.int .u32 (Wi - 1)] w2 fun en w' => en = .returned (.int .i64 ei) ∧ w2 = w') := Lib.hid ((Tryd.bits_Len32 (Wi - 1) w2 hW1.1 hW1.2).mono fun en w' h => ⟨by rw [h.1, hbl], h.2.symm⟩)
              obtain ⟨w3, hw3⟩ : ∃ x, w2.alloc (.cells #[.int .u8 (wb.toNat : Int)] 5) = x := ⟨_, rfl⟩
              have HS3 := Lib.hid (sl_lit w2 w3 [wb] hw3.symm (by simp))
              have HO3 : Hid (Own w3 B (.slice A2 5 c2) (magicF ++ [fb])) := by rw [← hw3]; exact Lib.hid (HAP2.out.alloc _)
              have hs3 : B ≤ w3.heap.size := by rw [← hw3]; simp; omega
              have hb3 : Below w2.heap.size w2 w3 := by rw [← hw3]; exact below_new _ _
              have HWB := Lib.hid hwb
              clear hw2e he1 he2 hei hbl hW1 hwb
              go_wp2_with (first
                | (go_at_call 22; refine KL.out.mono ?_; rintro en w' ⟨rfl, rfl⟩)
                | (at_builtin; refine wpList_append_sld rfl (.tmp 85) (.tmp 88) rfl B (.slice A2 5 c2) (magicF ++ [fb]) [wb] rfl HO3.out w3.heap.size (some ⟨w2.heap.size, 0, none⟩) 1 1 rfl HS3.out (by simp [magicF]) hs3 6 ((magicF ++ [fb]) ++ [wb]) rfl rfl ?_; intro A3 c3 w4 hap4))
              go_meet
              rw [show winB false e = [wb] by unfold winB; rw [HWB.out]; rfl]
              exact HD2.out.app hPB hb3 hap4
            · go_wp2_with fail
              go_meet
              rw [show winB true e = [] from rfl, List.append_nil]
              exact HD2.out
          case rest =>
            have hd3 := hcut
            have HD3 := Lib.hid hd3
            obtain ⟨A3, c3, rfl, hO3, hr3, _, hB3, hT3⟩ := hd3
            obtain ⟨l3, hl3⟩ : ∃ l, (magicF ++ [fb]) ++ winB s e = l := ⟨_, rfl⟩
            rw [hl3] at HD3 hO3 ⊢
            obtain ⟨n3, hn3⟩ : ∃ n, l3.length = n := ⟨_, rfl⟩
            rw [hn3] at hO3 ⊢
            have hl3s : l3.length ≤ 6 := by rw [← hl3]; unfold winB; split <;> simp [magicF]
            have qz : wc.cell? ⟨P, 0, none⟩ = some (.int .u64 zi) := cell_of_row wc P 0 _ _ (0, 0) hr3; have qW : wc.cell? ⟨P, 1, none⟩ = some (.int .u32 Wi) := cell_of_row wc P 1 _ _ (0, 0) hr3; have qs : wc.cell? ⟨P, 2, none⟩ = some (.bool s) := cell_of_row wc P 2 _ _ (0, 0) hr3; have qk : wc.cell? ⟨P, 3, none⟩ = some (.bool k) := cell_of_row wc P 3 _ _ (0, 0) hr3; have qD : wc.cell? ⟨P, 4, none⟩ = some (.int .u32 Di) := cell_of_row wc P 4 _ _ (0, 0) hr3
            have HO3 := Lib.hid hO3
            have HT3 := Lib.hid hT3
            have HL3 := Lib.hid hl3
            have HN3 := Lib.hid hn3
            clear hO3 hT3 hr3 hl3 hn3 hcut
            go_upto_if 92 with fail
            go_cut [1] from 92 to 95 (fun v1 wx => Dst (fhR zi Wi s k Di) P B w D T R (l3 ++ Lib.leBytes (dn D) D) v1 wx)
            case first =>
              rcases HDC.out with ⟨d0, rfl⟩ | ⟨d0, rfl, hRl, hRt⟩
              · have d0i : Di ≤ 0 := by have := HDI.out; omega
                go_wp2_with fail
                go_meet
                subst d0
                rw [show Lib.leBytes (dn 0) 0 = [] from rfl, List.append_nil]
                have h := HD3.out
                rw [HN3.out] at h
                exact h
              · have d0i : 0 < Di := by have := HDI.out; omega
                obtain ⟨hTr, hTb, hBT⟩ := HT3.out d0
                have hdn : dn D ≤ 4 := by unfold dn; (repeat' split) <;> omega
                have hST : Sl wc wc.heap.size (some ⟨T, 0, none⟩) (dn D) 4 (Lib.leBytes (dn D) D) := by
                  rw [← hRt]
                  refine ⟨by simp; omega, hdn, by unfold maxLen; omega, .inr ⟨T, 0, rfl, lt_of_blk hTr, fun j hj => ?_⟩⟩
                  rw [Nat.zero_add, cell_of_row wc T j _ _ (0, 0) hTr, List.getElem?_toArray]
                  unfold Lib.byteCells
                  simp at hj
                  rw [List.getElem?_map, List.getElem?_eq_getElem (by omega), List.getElem_take]
                  rfl
                have HST := Lib.hid hST
                clear hST hTr hTb hRl hRt
                go_wp2_with (at_builtin; refine wpList_append_sld rfl (.tmp 93) (.tmp 94) rfl B (.slice A3 n3 c3) l3 (Lib.leBytes (dn D) D) rfl HO3.out wc.heap.size (some ⟨T, 0, none⟩) (dn D) 4 rfl HST.out (by omega) hB3 (n3 + dn D) (l3 ++ Lib.leBytes (dn D) D) (by rw [HN3.out]) rfl ?_; intro A4 c4 w4 hap4)
                go_meet
                refine HD3.out.app hPB (Below.refl _ _) ?_
                rw [HN3.out]
                exact hap4
            case rest =>
              have hd4 := hcut
              obtain ⟨A4, c4, rfl, hO4, hr4, hb4, hB4, _⟩ := hd4
              obtain ⟨l4, hl4⟩ : ∃ l, l3 ++ Lib.leBytes (dn D) D = l := ⟨_, rfl⟩
              have hl4s : l4.length ≤ 10 := by rw [← hl4]; have hdn : dn D ≤ 4 := (by unfold dn; (repeat' split) <;> omega); rw [List.length_append, Lib.leBytes_length]; omega
              rw [hl4] at hO4 ⊢
              obtain ⟨n4, hn4⟩ : ∃ n, l4.length = n := ⟨_, rfl⟩
              rw [hn4] at hO4 ⊢
              have qz : wc.cell? ⟨P, 0, none⟩ = some (.int .u64 zi) := cell_of_row wc P 0 _ _ (0, 0) hr4; have qW : wc.cell? ⟨P, 1, none⟩ = some (.int .u32 Wi) := cell_of_row wc P 1 _ _ (0, 0) hr4; have qs : wc.cell? ⟨P, 2, none⟩ = some (.bool s) := cell_of_row wc P 2 _ _ (0, 0) hr4; have qk : wc.cell? ⟨P, 3, none⟩ = some (.bool k) := cell_of_row wc P 3 _ _ (0, 0) hr4; have qD : wc.cell? ⟨P, 4, none⟩ = some (.int .u32 Di) := cell_of_row wc P 4 _ _ (0, 0) hr4
              have HO4 := Lib.hid hO4
              have HL4 := Lib.hid hl4
              have HN4 := Lib.hid hn4
              have HR4 := Lib.hid hr4
              have Hb4 := Lib.hid hb4
              clear hO4 hr4 hl4 hn4 hcut hb4 qW qk qD
              · skip
                obtain ⟨b0, hb0'⟩ : ∃ b, beB (z - 256) 0 = b := ⟨_, rfl⟩
                have e0 : IntKind.u8.wrap ((zi - 256)) = (b0.toNat : Int) := by have h := be_at (z - 256) 0; have hz := HZI.out; rw [← hb0', ← h]; congr 1; omega
                obtain ⟨b1, hb1'⟩ : ∃ b, beB (z - 256) 1 = b := ⟨_, rfl⟩
                have e1 : IntKind.u8.wrap ((zi - 256) / 256) = (b1.toNat : Int) := by have h := be_at (z - 256) 1; have hz := HZI.out; rw [← hb1', ← h]; congr 1; omega
                have hsz : szB s z = [b0, b1] := by unfold szB; (repeat' split) <;> first | omega | simp_all
                have HSZ := Lib.hid hsz
                clear hb0'
                clear hb1'
                clear hsz
                have s256 : IntKind.u64.wrap (zi - 256) = zi - 256 := by have := HZI.out; have := HZ.out; rw [IntKind.wrap_u64]; omega
                have fz : wc.frozen? ⟨P, 0, none⟩ = false := frozen_of_row wc P 0 _ _ HR4.out
                obtain ⟨wp, hwp⟩ : ∃ x, wc.setCell ⟨P, 0, none⟩ (.int .u64 (zi - 256)) = x := ⟨_, rfl⟩
                have HOp : Hid (Own wp B (.slice A4 n4 c4) l4) := by rw [← hwp]; exact Lib.hid (HO4.out.setP hPB)
                have hbp : Below P wc wp := by rw [← hwp]; exact (Below.refl _ _).setCell (p := ⟨P, 0, none⟩) (Nat.le_refl P) _
                have qp : wp.cell? ⟨P, 0, none⟩ = some (.int .u64 (zi - 256)) := by rw [← hwp]; exact (cell_of_row _ P 0 _ _ (0, 0) (heap_set_eq HR4.out))
                have hsp : B ≤ wp.heap.size := by rw [← hwp]; simpa using hB4
                obtain ⟨w5, hw5⟩ : ∃ x, wp.alloc (.cells #[.int .u8 (b0.toNat : Int), .int .u8 (b1.toNat : Int)] 5) = x := ⟨_, rfl⟩
                have HS5 := Lib.hid (sl_lit wp w5 [b0, b1] hw5.symm (by simp))
                have HO5 : Hid (Own w5 B (.slice A4 n4 c4) l4) := by rw [← hw5]; exact Lib.hid (HOp.out.alloc _)
                have hs5 : B ≤ w5.heap.size := by rw [← hw5]; simp; omega
                have hb5 : Below wp.heap.size wp w5 := by rw [← hw5]; exact below_new _ _
                go_wp2_with (at_builtin; refine wpList_append_sld rfl (.tmp 114) (.tmp 122) rfl B (.slice A4 n4 c4) (l4) ([b0, b1]) rfl HO5.out w5.heap.size (some ⟨wp.heap.size, 0, none⟩) 2 2 rfl HS5.out (by omega) hs5 (n4 + 2) (l4 ++ [b0, b1]) (by rw [HN4.out]) rfl ?_; intro A6 c6 w6 hap6)
                go_ret
                have hfin : hdOut z e s k D = l4 ++ [b0, b1] := by unfold hdOut; rw [HSZ.out, HFB.out, HL3.out, HL4.out]
                rw [hfin]
                have hlen : (l4 ++ [b0, b1]).length = n4 + 2 := by rw [List.length_append, HN4.out]; rfl
                rw [hlen]
                exact ⟨A6, c6, rfl, hap6.app.sl, by first | exact ((Hb4.out.trans hbp).trans (hb5.mono (by have := lt_of_blk HR4.out; have := hbp.size; omega))).trans (hap6.app.bel.mono (Nat.le_of_lt hPB)) | (rw [hP]; exact ((Hb4.out.trans hbp).trans (hb5.mono (by have := lt_of_blk HR4.out; have := hbp.size; omega))).trans (hap6.app.bel.mono (Nat.le_of_lt hPB)))⟩
end Go.Proofs.YtiobfiepapflaaaDoor
