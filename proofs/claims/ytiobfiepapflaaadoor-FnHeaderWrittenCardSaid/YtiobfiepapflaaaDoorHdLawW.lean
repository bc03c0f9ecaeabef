/-
  The walk of FnHeaderWritten: it returns true. Condition: the two sentinels stand where the program lays them.
-/
import Derived.Test.YtiobfiepapflaaaDoorHdFinS
import Derived.Test.YtiobfiepapflaaaDoorHdFinO
import Derived.Test.YtiobfiepapflaaaDoorHdFinW
import Derived.Test.YtiobfiepapflaaaDoorHdFinV
import Derived.Test.YtiobfiepapflaaaDoorHdQuick
import Derived.Test.YtiobfiepapflaaaDoorHdWr
import Derived.Test.YtiobfiepapflaaaDoorHdApp
namespace Go.Proofs.YtiobfiepapflaaaDoor
open Go.RowKit

theorem wfU64 {z : Int} (h : (Lit.int .u64 z).wf = true) : 0 ≤ z ∧ z < 18446744073709551616 := by
  have e1 : IntKind.u64.min = 0 := rfl
  have e2 : IntKind.u64.max = 18446744073709551615 := rfl
  have := (show 0 ≤ z ∧ z ≤ 18446744073709551615 by simpa [Lit.wf, e1, e2] using h)
  omega
theorem wfU32 {z : Int} (h : (Lit.int .u32 z).wf = true) : 0 ≤ z ∧ z < 4294967296 := by
  have e1 : IntKind.u32.min = 0 := rfl
  have e2 : IntKind.u32.max = 4294967295 := rfl
  have := (show 0 ≤ z ∧ z ≤ 4294967295 by simpa [Lit.wf, e1, e2] using h)
  omega
theorem hdOut_pos (z e : Nat) (s k : Bool) (D : Nat) : 0 < (hdOut z e s k D).length := by
  unfold hdOut magicF
  simp
theorem skOut_pos (id size : Nat) : 0 < (skOut id size).length := by simp [skOut]

theorem writtenLaw_walk {w : World} {T0 T1 : TypeId} {a0 a1 : Addr} (s : Bool) (win dict : Int) (has : Bool) (size : Int) (skip : Bool) (id ssz hs : Int) (ck ok last comp : Bool) (out inn : Int)
    (e0 : w.cell? ⟨0, 0, none⟩ = some (.iface T0 (.pointer (some a0)))) (e1 : w.cell? ⟨1, 0, none⟩ = some (.iface T1 (.pointer (some a1))))
    (wwin : 0 ≤ win ∧ win < 18446744073709551616) (wdict : 0 ≤ dict ∧ dict < 4294967296) (wsize : 0 ≤ size ∧ size < 18446744073709551616) (wssz : 0 ≤ ssz ∧ ssz < 4294967296) :
    Calls Tryd.prog 5 #[.agg (ihA s win dict has size skip id ssz hs ck ok last comp out inn)] w fun e w' => e = .returned (.bool true) ∧ Below w.heap.size w w' := by
  obtain ⟨D, rfl⟩ := Int.eq_ofNat_of_zero_le wdict.1
  obtain ⟨z, rfl⟩ := Int.eq_ofNat_of_zero_le wsize.1
  obtain ⟨X, rfl⟩ := Int.eq_ofNat_of_zero_le wssz.1
  have hD : D < 4294967296 := by omega
  have hz : z < 18446744073709551616 := by omega
  have hX : X < 4294967296 := by omega
  cases skip
  · cases s
    · by_cases h1 : 1024 ≤ win
      · by_cases h2 : win ≤ 2147483648
        · by_cases h3 : bits .and .u64 win (win - 1) = 0
          · obtain ⟨e, he1, he2, rfl⟩ := win_pow win h1 h2 h3
            have hW : 2 ^ e < 4294967296 := by omega
            have hq : 4294967296 = 4294967296 := rfl
            obtain ⟨hT, hG⟩ := hd_win z e D ck he1 he2 hD hz
            cases has
            · by_cases h4 : z = 0
              · subst h4
                refine wrLaw_V (hdOut 0 e false ck D) _ _ _ _ ck hs ok last comp out inn h1 h2 h3 e0 e1 (fun wa Dp hR => ?_) (hdOut_pos ..) hT hG
                exact appTo_frame Dp 0 ((2 ^ e : Nat) : Int) D false ck false (hdOut 0 e false ck D) wa hR (by rw [IntKind.wrap_u32]; omega) (fun w' => appendTo_any 0 _ _ 0 (2 ^ e) e D false ck w' rfl rfl rfl (by omega) hW (fun _ => ⟨rfl, he1, he2⟩) hD)
              · exact wr_quick w _ _ _ _ _ _ _ _ _ _ _ _ _ _ _ (.inr (.inr (.inr (.inr (.inr (.inr (.inr ⟨rfl, rfl, h1, h2, h3, rfl, by omega⟩)))))))
            · by_cases h4 : 256 ≤ z
              · rw [decide_eq_true h4, if_pos h4] at hT hG
                refine wrLaw_W (hdOut z e false ck D) _ _ _ _ _ ck hs ok last comp out inn h1 h2 h3 (by omega) e0 e1 (fun wa Dp hR => ?_) (hdOut_pos ..) hT hG
                exact appTo_frame Dp z ((2 ^ e : Nat) : Int) D false ck true (hdOut z e false ck D) wa hR (by rw [IntKind.wrap_u32]; omega) (fun w' => appendTo_any z _ _ z (2 ^ e) e D false ck w' rfl rfl rfl hz hW (fun _ => ⟨rfl, he1, he2⟩) hD)
              · exact wr_quick w _ _ _ _ _ _ _ _ _ _ _ _ _ _ _ (.inr (.inr (.inr (.inr (.inr (.inr (.inl ⟨rfl, rfl, h1, h2, h3, rfl, by omega⟩)))))))
          · exact wr_quick w _ _ _ _ _ _ _ _ _ _ _ _ _ _ _ (.inr (.inr (.inr (.inr (.inr (.inl ⟨rfl, rfl, h1, h2, h3⟩))))))
        · exact wr_quick w _ _ _ _ _ _ _ _ _ _ _ _ _ _ _ (.inr (.inr (.inr (.inr (.inl ⟨rfl, rfl, h1, by omega⟩)))))
      · exact wr_quick w _ _ _ _ _ _ _ _ _ _ _ _ _ _ _ (.inr (.inr (.inr (.inl ⟨rfl, rfl, by omega⟩))))
    · cases has
      · exact wr_quick w _ _ _ _ _ _ _ _ _ _ _ _ _ _ _ (.inr (.inr (.inl ⟨rfl, rfl, rfl⟩)))
      · obtain ⟨hT, hG⟩ := hd_one z 0 D ck hD hz
        refine wrLaw_O (hdOut z 0 true ck D) _ _ _ _ _ ck hs ok last comp out inn e0 e1 (fun wa Dp hR => ?_) (hdOut_pos ..) hT hG
        exact appTo_frame Dp z 0 D true ck true (hdOut z 0 true ck D) wa hR (by rw [IntKind.wrap_u32]; rfl) (fun w' => appendTo_any z 0 _ z 0 0 D true ck w' rfl rfl rfl hz (by omega) (fun h => by cases h) hD)
  · by_cases h0 : id < 0
    · exact wr_quick w _ _ _ _ _ _ _ _ _ _ _ _ _ _ _ (.inl ⟨rfl, h0⟩)
    · by_cases h15 : 15 < id
      · exact wr_quick w _ _ _ _ _ _ _ _ _ _ _ _ _ _ _ (.inr (.inl ⟨rfl, by omega, h15⟩))
      · obtain ⟨I, rfl⟩ := Int.eq_ofNat_of_zero_le (show 0 ≤ id by omega)
        obtain ⟨hT, hG⟩ := hd_skip I X (by omega) hX
        refine wrLaw_S (skOut I X) _ _ _ _ _ _ _ ck hs ok last comp out inn (by omega) (by omega) e0 e1 (fun wa Dp hR => ?_) (skOut_pos ..) hT hG
        exact appTo_skip Dp I X I X false false false 0 0 0 wa hR rfl rfl (by omega)
end Go.Proofs.YtiobfiepapflaaaDoor
