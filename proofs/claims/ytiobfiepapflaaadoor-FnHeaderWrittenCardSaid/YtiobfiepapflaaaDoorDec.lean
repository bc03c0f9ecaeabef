/-
  (*zstd.Header).DecodeAndStrip, step by step. Conditions: those of each.
-/
import Derived.Test.YtiobfiepapflaaaDoorTellS
namespace Go.Proofs.YtiobfiepapflaaaDoor
open Go.RowKit

/-- the cells of zstd.Header: the header, its first block, the checksum -/
abbrev zhA (s : Bool) (win dict : Int) (has : Bool) (size : Int) (skip : Bool) (id ssz hs : Int) (ok last comp : Bool) (out inn : Int) (ck : Bool) : Array Value :=
  #[.bool s, .int .u64 win, .int .u32 dict, .bool has, .int .u64 size, .bool skip, .int .i64 id, .int .u32 ssz, .int .i64 hs, .bool ok, .bool last, .bool comp, .int .i64 out, .int .i64 inn, .bool ck]
abbrev zhZ : Array Value := zhA false 0 0 false 0 false 0 0 0 false false false 0 0 false
theorem zhA_one (s : Bool) (win dict : Int) (has : Bool) (size : Int) (skip : Bool) (id ssz hs : Int) (ok last comp : Bool) (out inn : Int) (ck : Bool) :
    (zhA s win dict has size skip id ssz hs ok last comp out inn ck).all (·.oneCell') = true := by simp [Value.oneCell']
theorem size46 : (Tryd.prog.info? 46).map (·.size) = some 15 := by kernel_rfl

set_option maxRecDepth 100000 in
set_option maxHeartbeats 1600000 in
theorem dec_lt4 (D : Nat) (A : Option Addr) (n c : Nat) (w : World) (E : Value) (old : Array Value) (hold : old.size = 15) (hd : w.heap[D]? = some (.cells old 46 (0, 0))) (h4 : n < 4) (hD : 1 < D) (hE : w.cell? ⟨0, 0, none⟩ = some E) :
    Calls Tryd.prog 15 #[.pointer (some ⟨D, 0, none⟩), .slice A n c] w fun e w' => e = .returned (.tuple #[.slice none 0 0, E]) ∧ Below D w w' := by
  have h4i : (n : Int) < 4 := by omega
  have HD := Lib.hid hd
  have HE := Lib.hid hE
  clear hd hE
  go_enter Tryd.func15, Tryd.ntmps15
  go_wp2_with (refine wpList_store_all (by rfl) 46 (.tmp 23) (.tmp 22) (by rfl) D zhZ (by rfl) (by rfl) 46 old HD size46 hold (zhA_one ..) D (Nat.le_refl _) ?_; intro w2 HD2 hb2 HO2; have hE2 := (hb2.cell (p := ⟨0, 0, none⟩) (by show 0 < D; omega)).trans HE.out)
  go_quiet (fail)
  go_wp2_with fail
  go_ret2
  exact ⟨rfl, hb2.trans ⟨rfl, rfl, rfl, Nat.le_refl _, fun _ _ => rfl⟩⟩
end Go.Proofs.YtiobfiepapflaaaDoor
