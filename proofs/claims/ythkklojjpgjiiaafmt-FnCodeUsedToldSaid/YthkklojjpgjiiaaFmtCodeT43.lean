/-
  huff0's buildCTable. Conditions: those of the theorem.
-/
import Derived.Test.YthkklojjpgjiiaaFmtCodeT37
import Derived.Test.YthkklojjpgjiiaaFmtCodeT42
namespace Go.Proofs.YthkklojjpgjiiaaFmt
open Go.RowKit

theorem info_cent4 : (Tryf.prog.info? 78).map (fun i => (i.zero, i.size, i.bytes)) = some (some (.agg #[.int .u16 0, .int .u8 0]), 2, 4) := by kernel_rfl
theorem madeC_get (k : Nat) (hk : k < 512) : (madeCells (Value.agg #[.int .u16 0, .int .u8 0]).cells 512)[k]? = some (cV (fun _ => 0) (fun _ => 0) k) := by
  rw [madeCells_get _ _ _ hk]
  show some ((#[Value.int .u16 0, Value.int .u8 0] : Array Value)[k % 2]!) = _
  unfold cV
  rcases Nat.mod_two_eq_zero_or_one k with h | h
  · rw [h, if_pos rfl]; rfl
  · rw [h, if_neg (by omega)]; rfl
theorem make_ct (S : Nat) (hS : S ≤ 256) : ∃ arr : Array Value, arr.size = 512 ∧ (∀ k, k < 512 → arr[k]? = some (cV (fun _ => 0) (fun _ => 0) k)) ∧ ∀ w, (Instr.makeSlice 42 (.int .u16 (S : Nat)) (.int .i64 256)).run Tryf.prog w = .ok (.slice (some ⟨w.heap.size, 0, none⟩) S 256) (w.alloc (.cells arr 78)) := by
  obtain ⟨i, h1, h2, h3, h4⟩ := info_parts info_cent4
  refine ⟨madeCells (Value.agg #[.int .u16 0, .int .u8 0]).cells 512, by simp [size_madeCells], madeC_get, fun w => ?_⟩
  have h := run_make (P := Tryf.prog) w 42 78 i _ Tryf.underlying42 h1 h2 .u16 .i64 (S : Nat) 256 (by omega) (by omega) (by rw [h4]; omega) (by omega)
  rw [h3] at h
  exact h
set_option maxRecDepth 100000 in
set_option maxHeartbeats 6400000 in
theorem buildCTable_any {w : World} {H G S T n : Nat} {f : Nat → Value} {C : Nat → Nat} (hH : RowF w H 58 540 f) (hG : RowF w G 110 513 (ndV fun _ => 0)) (hHG : H ≠ G) (h273 : f 273 = .slice (some ⟨G, 0, none⟩) 0 513) (h265 : f 265 = .int .u16 (S : Nat)) (h260 : f 260 = .int .i64 (T : Nat)) (h262 : f 262 = .int .u8 11) (h271 : f 271 = .slice none 0 0) (hcnt : ∀ k, k < 256 → f k = .int .u32 (C k : Nat)) (hC : ∀ i, C i < 65536) (hS : S ≤ 256) (hT : T ≤ 1000000) (hn : n = bs C S 1) (h2n : 2 ≤ n) (hnT : n ≤ T) :
    Calls Tryf.prog 19 #[.pointer (some ⟨H, 0, none⟩)] w fun e w' => e = .returned .nilIface ∧ ∃ (Ct : Nat) (f' : Nat → Value) (g : Nat → Int) (nb : Nat → Nat), RowF w' H 58 540 f' ∧ f' 271 = .slice (some ⟨Ct, 0, none⟩) S 256 ∧ (∀ k, k < 540 → k ≠ 268 → k ≠ 271 → k ≠ 273 → f' k = f k) ∧ (∃ m : Nat, f' 268 = .int .u8 (m : Nat)) ∧ RowF w' Ct 78 512 (cV g nb) ∧ w.heap.size ≤ Ct ∧ (∀ s, nb s ≤ 11) ∧ (∀ s, 1 ≤ nb s ↔ s < S ∧ 0 < C s) ∧ Only (fun k => k = H ∨ k = G ∨ w.heap.size ≤ k) w w' := by
  have hnS : n ≤ S := by rw [hn]; exact bs_le _
  have K26 := Lib.hid (optLog_any hH h260 h265 h262 (by omega) hT (by omega) hS)
  have hle := optLog_le T S
  have hft := optLog_fits (k := n) (n := T) (m := S) (by omega) hS hnT hnS
  obtain ⟨M, hM⟩ : ∃ M, optLog T S = M := ⟨_, rfl⟩
  rw [hM] at K26 hle hft
  have lH := hH.lt
  have lG := hG.lt
  have hH1 := hH.set_ 268 (.int .u8 (M : Nat))
  have hG1 := hG.other (p := ⟨H, 268, none⟩) (.int .u8 (M : Nat)) hHG
  have hO1 := (Only.refl (fun k => k = H ∨ k = G ∨ w.heap.size ≤ k) w).set_ (p := ⟨H, 268, none⟩) (.inl rfl) (.int .u8 (M : Nat))
  have f1ne : ∀ k, k ≠ 268 → updV f 268 (.int .u8 (M : Nat)) k = f k := fun k h => updV_ne _ _ _ _ h
  have K27 := Lib.hid (huffSort_any hH1 hG1 hHG (by rw [f1ne _ (by omega)]; exact h273) (by rw [f1ne _ (by omega)]; exact h265) (fun k hk => by rw [f1ne _ (by omega)]; exact hcnt k hk) hC hS)
  have hs1 : (w.setCell ⟨H, 268, none⟩ (.int .u8 (M : Nat))).heap.size = w.heap.size := by simp
  have HS1 := Lib.hid hs1
  have HO1 := Lib.hid hO1
  have F1 := Lib.hid f1ne
  have HHG := Lib.hid hHG
  have H265 := Lib.hid h265
  have H271 := Lib.hid h271
  have HC := Lib.hid hC
  have HN := Lib.hid hn
  have HFT := Lib.hid hft
  have LH := Lib.hid lH
  have LG := Lib.hid lG
  obtain ⟨arr, harr1, harr2, hmk⟩ := make_ct S hS
  have HA1 := Lib.hid harr1
  have HA2 := Lib.hid harr2
  clear hH hG hHG h273 h265 h260 h262 h271 hcnt hC hn hH1 hG1 hO1 f1ne hs1 hft lH lG hM harr1 harr2 hnS hnT
  go_enter Tryf.func19, Tryf.ntmps19
  go_wp2_with fail
  refine K26.out.mono ?_
  rintro e w1 ⟨rfl, rfl⟩
  go_wp2_with fail
  refine K27.out.mono ?_
  rintro e w2 ⟨rfl, nv, sy, hh2, hg2, hI2, ho2⟩
  have k271 : w2.cell? ⟨H, 271, none⟩ = some (.slice none 0 0) := hh2.cellv 271 (by omega) _ (by rw [updV_ne _ _ _ _ (by omega), F1.out _ (by omega)]; exact H271.out)
  have z271 := hh2.frozen 271
  have k265 : w2.cell? ⟨H, 265, none⟩ = some (.int .u16 (S : Nat)) := hh2.cellv 265 (by omega) _ (by rw [updV_ne _ _ _ _ (by omega), F1.out _ (by omega)]; exact H265.out)
  have hO2 : Only (fun k => k = H ∨ k = G ∨ w.heap.size ≤ k) w w2 := HO1.out.trans (by rw [HS1.out] at ho2; exact ho2)
  have HH2 := Lib.hid hh2
  have HG2 := Lib.hid hg2
  have HI2 := Lib.hid hI2
  have HO2 := Lib.hid hO2
  have k271a : (w2.alloc (.cells arr 78)).cell? ⟨H, 271, none⟩ = some (.slice none 0 0) := (hh2.alloc _).cellv 271 (by omega) _ (by rw [updV_ne _ _ _ _ (by omega), F1.out _ (by omega)]; exact H271.out)
  have z271a := (hh2.alloc (.cells arr 78)).frozen 271
  clear hh2 hg2 hI2 ho2 hO2 K26 K27
  go_upto_if 40 with fail
  rename_i K1 a1
  have HK := Lib.hid a1
  clear a1
  go_wp2_with fail
  obtain ⟨Ct, hCt⟩ : ∃ Ct, w2.heap.size = Ct := ⟨_, rfl⟩
  rw [hCt]
  have hC3 : RowF (w2.alloc (.cells arr 78)) Ct 78 512 (cV (fun _ => 0) fun _ => 0) := by
    rw [← hCt]
    exact ⟨arr, heap_alloc_new _ _, HA1.out, HA2.out⟩
  have hwC : w.heap.size ≤ Ct := by rw [← hCt]; exact HO2.out.size
  have hHC : H < Ct := by have := LH.out; omega
  have hGC : G < Ct := by have := LG.out; omega
  have hC4 := hC3.other (p := ⟨H, 271, none⟩) (.slice (some ⟨Ct, 0, none⟩) S 256) (show H ≠ Ct by omega)
  have hH4 := (HH2.out.alloc (.cells arr 78)).set_ 271 (.slice (some ⟨Ct, 0, none⟩) S 256)
  have hG4 := (HG2.out.alloc (.cells arr 78)).other (p := ⟨H, 271, none⟩) (.slice (some ⟨Ct, 0, none⟩) S 256) HHG.out
  have hO4 := (HO2.out.alloc (.cells arr 78)).set_ (p := ⟨H, 271, none⟩) (.inl rfl) (.slice (some ⟨Ct, 0, none⟩) S 256)
  have hnS : n ≤ S := by rw [HN.out]; exact bs_le _
  have hne : ∀ k, k ≠ 271 → k ≠ 273 → k ≠ 268 → updV (updV (updV f 268 (.int .u8 (M : Nat))) 273 (.slice (some ⟨G, 0, none⟩) 513 513)) 271 (.slice (some ⟨Ct, 0, none⟩) S 256) k = f k := fun k h1 h2 h3 => by rw [updV_ne _ _ _ _ h1, updV_ne _ _ _ _ h2, updV_ne _ _ _ _ h3]
  refine HK.out _ _ (bc_2 LH.out LG.out HHG.out hwC hS HN.out h2n hle.1 hle.2 HFT.out (by rw [updV_ne _ _ _ _ (by omega), updV_ne _ _ _ _ (by omega), updV_same]) (by rw [updV_ne _ _ _ _ (by omega), updV_same]) (updV_same _ _ _) (by rw [hne _ (by omega) (by omega) (by omega)]; exact H265.out) HC.out HI2.out hO4 hC4 hH4 hG4 _ _ _ _ _ _ _ _ _ _ _ _ _ _ _ _ _ _ _ _ _ _ _ _ _ _ _ _ _ _ _ _ _ _ _ _ _ _ _ _ _ _ _ _ _ _ _ _ _ _ _ _ _ _ _ _ _ _ _ _ _ _ _ _ _ _ _ _ _ _ _ _ _ _ _ _ _ _ _ _ _ _ _ _ _ _ _ _ _ _ _ _ _ _ _ _ _ _ _ _ _ _ _ _ _ _ _ _ _ _ _ _ _ _ _ _ _ _ _ _ _ _ _ _ _ _ _ _ _ _ _ _ _ _ _ _ _ _ _ _ _ _ _ _ _ _ _ _ _ _ _ _ _ _ _ _ _ _ _ _ _ _ _ _ _ _ _ _ _ _ _ _ _ _ _ _ _ _ _ _ _ _ _ _ _ _ _ _ _ _ _ _ _ _ _ _ _ _ _ _ _ _ _ _ _ _ _ _ _ _ _ _ _ _ _ _ _ _ _ _ _ _ _ _ _ _ _ _ _ _ _ _ _ _ _ _ _ _ _ _ _ _ _ _ _ _ _ _ _ _ _ _ _ _ _ _ _ _ _ _ _ _ _ _ _ _ _ _ _ _ _ _ _ _ _ _ _ _ _ _ _ _ _ _ _ _ _ _ _ _ _ _ _ _ _ _ _ _ _ _ _ _ _ _ _ _ _ _ _ _ _ _ _ _ _ _ _ _ _ _ _ _ _ _ _ _ _ _ _ _ _ _ _ _ _ _ _ _ _ _ _ _ _ _ _ _ _ _ _ _ _ _ _ _ _ _ _ _ ?_)
  rintro F w5 ⟨hF, M', nb, nvv, A, B, hI, hW⟩
  rw [bc_ret hF]
  go_ret
  obtain ⟨g, hg⟩ := hW.c
  have hSo := HI2.out.si.done HC.out
  have hsy : ∀ q, q < S → sy1 sy S (q + 1) = sy q := fun q hq => by unfold sy1; rw [if_pos (by omega)]; rfl
  refine ⟨rfl, Ct, _, g, nb, hW.h, ?_, fun k hk h1 h2 h3 => ?_, ⟨M', updV_same _ _ _⟩, hg, hwC, hI.le, fun s => ⟨fun h => ?_, fun h => ?_⟩, hW.only⟩
  · rw [updV_ne _ _ _ _ (by omega), updV_same]
  · rw [updV_ne _ _ _ _ h1, hne k h2 h3 h1]
  · obtain ⟨q, hq, he⟩ := hI.src s (by omega)
    rw [← he]
    have he2 := hsy q (by omega)
    show sy1 sy S (q + 1) < S ∧ 0 < C (sy1 sy S (q + 1))
    rw [he2]
    exact ⟨hSo.lt q (by omega), (hSo.used q (by omega)).2 (by rw [← HN.out]; exact hq)⟩
  · obtain ⟨p, hp, he⟩ := hSo.all s h.1
    have hpn : p < n := by rw [HN.out]; exact (hSo.used p hp).1 (by rw [he]; exact h.2)
    have h5 := hI.got p hpn
    show 1 ≤ nb s
    have h6 : 1 ≤ nb (sy1 sy S (p + 1)) := h5
    rw [hsy p hp, he] at h6
    exact h6
end Go.Proofs.YthkklojjpgjiiaaFmt
