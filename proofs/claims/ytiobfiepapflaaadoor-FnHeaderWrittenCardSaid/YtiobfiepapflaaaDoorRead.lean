/-
  told, Decode, ReadHeader, StripHeader by what DecodeAndStrip does. Conditions: those of each.
-/
import Derived.Test.YtiobfiepapflaaaDoorDecN
namespace Go.Proofs.YtiobfiepapflaaaDoor
open Go.RowKit

/-- the cells of impl.Header -/
abbrev ihA (s : Bool) (win dict : Int) (has : Bool) (size : Int) (skip : Bool) (id ssz hs : Int) (ck ok last comp : Bool) (out inn : Int) : Array Value :=
  #[.bool s, .int .u64 win, .int .u32 dict, .bool has, .int .u64 size, .bool skip, .int .i64 id, .int .u32 ssz, .int .i64 hs, .bool ck, .bool ok, .bool last, .bool comp, .int .i64 out, .int .i64 inn]
theorem ihA_one (s : Bool) (win dict : Int) (has : Bool) (size : Int) (skip : Bool) (id ssz hs : Int) (ck ok last comp : Bool) (out inn : Int) : (ihA s win dict has size skip id ssz hs ck ok last comp out inn).all (·.oneCell') = true := by simp [Value.oneCell']

section
variable {P : Program}
theorem results_cell1_row {fn : Func} {p : Tmp} {ty : TypeId} (h : fn.results = #[.cell p ty]) (tmps : Array Value) (w : World) (g : Nat) (t : TypeId) (cs : Array Value) (fr : Nat × Nat) (d : TypeDesc)
    (hp : tmps.getD p undef = .pointer (some ⟨g, 0, none⟩)) (hg : w.heap[g]? = some (.cells cs t fr))
    (hu : P.underlying ty = some d) (hd : (match d with | .struct _ | .array _ _ => true | _ => false) = true) (hi : (P.info? ty).map (·.size) = some cs.size) :
    (results fn tmps).run P w = .ok (.agg cs) w := by
  have hp' : tmps[p]?.getD undef = .pointer (some ⟨g, 0, none⟩) := by simpa using hp
  simp [results, h, hp', asAddr, run_loadVar_row w g t ty cs fr d hg hu hd hi]
end

set_option maxRecDepth 100000 in
set_option maxHeartbeats 1600000 in
theorem told_any (s : Bool) (win dict : Int) (has : Bool) (size : Int) (skip : Bool) (id ssz hs : Int) (ok last comp : Bool) (out inn : Int) (ck : Bool) (w : World) :
    Calls Tryd.prog 14 #[.agg (zhA s win dict has size skip id ssz hs ok last comp out inn ck)] w fun e w' => e = .returned (.agg (ihA s win dict has size skip id ssz hs ck ok last comp out inn)) ∧ Below w.heap.size w w' := by
  go_enter Tryd.func14, Tryd.ntmps14
  go_wp2_with fail
  have hz : (w.alloc (.cells (zhA s win dict has size skip id ssz hs ok last comp out inn ck) 46 (0, 0))).heap.size = w.heap.size + 1 := Array.size_push ..
  have hy := (alloc2_facts hz (.cells (ihA s win dict has size skip id ssz hs ck ok last comp out inn) 28 (0, 0)) (.cells #[.bool ok, .bool last, .bool comp, .int .i64 out, .int .i64 inn] 44 (0, 0))).1
  refine bodyPost_ret (results_cell1_row rfl _ _ (w.heap.size + 1) 28 _ (0, 0) _ rfl hy Tryd.underlying28 rfl size28) rfl ⟨rfl, ?_⟩
  exact (((Below.refl _ _).alloc (Nat.le_refl _) _).alloc (by omega) _).alloc (by rw [show ∀ (x : World) o, (x.alloc o).heap.size = x.heap.size + 1 from fun _ _ => Array.size_push ..]; omega) _

set_option maxRecDepth 100000 in
set_option maxHeartbeats 800000 in
theorem decode_any (p s E : Value) (w : World) (R : World → Prop)
    (K : Calls Tryd.prog 15 #[p, s] w fun e w' => (∃ v, e = .returned (.tuple #[v, E])) ∧ R w') :
    Calls Tryd.prog 13 #[p, s] w fun e w' => e = .returned E ∧ R w' := by
  have HK := Lib.hid K
  clear K
  go_enter Tryd.func13, Tryd.ntmps13
  go_wp2_with fail
  refine HK.out.mono ?_
  rintro e w' ⟨⟨v, rfl⟩, hR⟩
  have HR := Lib.hid hR
  clear hR
  go_wp2_with fail
  go_ret
  exact ⟨rfl, HR.out⟩

set_option maxRecDepth 100000 in
set_option maxHeartbeats 800000 in
theorem read_good (A : Option Addr) (n c : Nat) (w : World) (s : Bool) (win dict : Int) (has : Bool) (size : Int) (skip : Bool) (id ssz hs : Int) (ok last comp : Bool) (out inn : Int) (ck : Bool)
    (K : ∀ wa D, D = w.heap.size + 1 → wa.heap[D]? = some (.cells zhZ 46 (0, 0)) → Below w.heap.size w wa → Calls Tryd.prog 15 #[.pointer (some ⟨D, 0, none⟩), .slice A n c] wa fun e w' => (∃ v, e = .returned (.tuple #[v, .nilIface])) ∧ w'.heap[D]? = some (.cells (zhA s win dict has size skip id ssz hs ok last comp out inn ck) 46 (0, 0)) ∧ Below D wa w') :
    Calls Tryd.prog 7 #[.slice A n c] w fun e w' => e = .returned (.tuple #[.agg (ihA s win dict has size skip id ssz hs ck ok last comp out inn), .bool true]) ∧ Below w.heap.size w w' := by
  have HK := Lib.hid K
  clear K
  go_enter Tryd.func7, Tryd.ntmps7
  go_wp2_with fail
  obtain ⟨B, hB⟩ : ∃ B, w.heap.size = B := ⟨_, rfl⟩
  have hal := alloc2_facts hB (.cells hdZ 28 (0, 0)) (.cells zhZ 46 (0, 0))
  obtain ⟨w2, hw2⟩ : ∃ w2, (w.alloc (.cells hdZ 28 (0, 0))).alloc (.cells zhZ 46 (0, 0)) = w2 := ⟨_, rfl⟩
  rw [hw2] at hal ⊢
  obtain ⟨hH2, hZ2, _, hbl⟩ := hal
  rw [hB]
  have HB := Lib.hid hB
  have hK := decode_any _ _ _ w2 _ ((HK.out w2 (B + 1) (by rw [hB]) hZ2 (by rw [hB]; exact hbl)).mono fun e w' h => ⟨h.1, h.2⟩)
  clear hw2 hB
  refine hK.mono ?_
  rintro e w8 ⟨rfl, hR8, hb8⟩
  clear hK HK hZ2
  have HH8 : Hid (w8.heap[B]? = some (.cells hdZ 28 (0, 0))) := Lib.hid ((hb8.block B (by omega)).trans hH2)
  have hb9 : Below B w w8 := hbl.trans (hb8.mono (by omega))
  clear hH2 hbl hb8
  have HR8 := Lib.hid hR8
  clear hR8
  go_wp2_with (refine wpList_load_row (by rfl) 46 (.tmp 4) (by rfl) (B + 1) (by rfl) 46 (zhA s win dict has size skip id ssz hs ok last comp out inn ck) (0, 0) _ HR8.out Tryd.underlying46 rfl size46 ?_)
  refine (told_any s win dict has size skip id ssz hs ok last comp out inn ck w8).mono ?_
  rintro e w' ⟨rfl, hb10⟩
  have hB8 : B < w8.heap.size := by have := hb9.size; rcases Nat.lt_or_ge B w8.heap.size with h | h
                                    · exact h
                                    · have h2 := HH8.out; rw [Array.getElem?_eq_none h] at h2; cases h2
  have HH9 : Hid (w'.heap[B]? = some (.cells hdZ 28 (0, 0))) := Lib.hid ((hb10.block B hB8).trans HH8.out)
  have hb11 : Below B w w' := hb9.trans (hb10.mono (by omega))
  clear hb10 hb9
  go_wp2_with (refine wpList_store_all (by rfl) 28 (.tmp 2) (.tmp 13) (by rfl) B (ihA s win dict has size skip id ssz hs ck ok last comp out inn) (by rfl) (by rfl) 28 hdZ HH9 size28 rfl (ihA_one ..) B (Nat.le_refl _) ?_; intro w9 HR9 hb12 HO9)
  obtain rfl := HB.out
  exact bodyPost_ret (results_cell_tmp_row rfl _ w9 w.heap.size 28 _ (0, 0) _ rfl HR9.out Tryd.underlying28 rfl size28) rfl ⟨rfl, hb11.trans hb12⟩
set_option maxRecDepth 100000 in
set_option maxHeartbeats 800000 in
theorem decode_err (p s : Value) (w : World) (R : World → Prop)
    (K : Calls Tryd.prog 15 #[p, s] w fun e w' => (∃ v T a, e = .returned (.tuple #[v, .iface T (.pointer (some a))])) ∧ R w') :
    Calls Tryd.prog 13 #[p, s] w fun e w' => (∃ T a, e = .returned (.iface T (.pointer (some a)))) ∧ R w' := by
  have HK := Lib.hid K
  clear K
  go_enter Tryd.func13, Tryd.ntmps13
  go_wp2_with fail
  refine HK.out.mono ?_
  rintro e w' ⟨⟨v, T, a, rfl⟩, hR⟩
  have HR := Lib.hid hR
  clear hR
  go_wp2_with fail
  go_ret
  exact ⟨⟨T, a, rfl⟩, HR.out⟩

set_option maxRecDepth 100000 in
set_option maxHeartbeats 800000 in
theorem read_bad (A : Option Addr) (n c : Nat) (w : World)
    (K : ∀ wa D, D = w.heap.size + 1 → wa.heap[D]? = some (.cells zhZ 46 (0, 0)) → Below w.heap.size w wa → Calls Tryd.prog 15 #[.pointer (some ⟨D, 0, none⟩), .slice A n c] wa fun e w' => (∃ v T a, e = .returned (.tuple #[v, .iface T (.pointer (some a))])) ∧ Below D wa w') :
    Calls Tryd.prog 7 #[.slice A n c] w fun e w' => e = .returned (.tuple #[.agg hdZ, .bool false]) ∧ Below w.heap.size w w' := by
  have HK := Lib.hid K
  clear K
  go_enter Tryd.func7, Tryd.ntmps7
  go_wp2_with fail
  obtain ⟨B, hB⟩ : ∃ B, w.heap.size = B := ⟨_, rfl⟩
  have hal := alloc2_facts hB (.cells hdZ 28 (0, 0)) (.cells zhZ 46 (0, 0))
  obtain ⟨w2, hw2⟩ : ∃ w2, (w.alloc (.cells hdZ 28 (0, 0))).alloc (.cells zhZ 46 (0, 0)) = w2 := ⟨_, rfl⟩
  rw [hw2] at hal ⊢
  obtain ⟨hH2, hZ2, _, hbl⟩ := hal
  rw [hB]
  have HB := Lib.hid hB
  have hK := decode_err _ _ w2 _ (HK.out w2 (B + 1) (by rw [hB]) hZ2 (by rw [hB]; exact hbl))
  clear hw2 hB
  refine hK.mono ?_
  rintro e w8 ⟨⟨T, a, rfl⟩, hb8⟩
  clear hK HK hZ2
  have HH8 : Hid (w8.heap[B]? = some (.cells hdZ 28 (0, 0))) := Lib.hid ((hb8.block B (by omega)).trans hH2)
  have hb9 : Below B w w8 := hbl.trans (hb8.mono (by omega))
  clear hH2 hbl hb8
  go_wp2_with (refine wpList_store_all (by rfl) 28 (.tmp 2) (.tmp 11) (by rfl) B hdZ (by rfl) (by rfl) 28 hdZ HH8 size28 rfl (ihA_one ..) B (Nat.le_refl _) ?_; intro w9 HR9 hb12 HO9)
  obtain rfl := HB.out
  exact bodyPost_ret (results_cell_tmp_row rfl _ w9 w.heap.size 28 _ (0, 0) _ rfl HR9.out Tryd.underlying28 rfl size28) rfl ⟨rfl, hb9.trans hb12⟩

set_option maxRecDepth 100000 in
set_option maxHeartbeats 800000 in
theorem strip_good (A : Option Addr) (n c : Nat) (w : World) (s : Bool) (win dict : Int) (has : Bool) (size : Int) (skip : Bool) (id ssz hs : Int) (ok last comp : Bool) (out inn : Int) (ck : Bool) (m : Nat)
    (K : ∀ wa D, D = w.heap.size + 1 → wa.heap[D]? = some (.cells zhZ 46 (0, 0)) → Below w.heap.size w wa → Calls Tryd.prog 15 #[.pointer (some ⟨D, 0, none⟩), .slice A n c] wa fun e w' => (∃ A c, e = .returned (.tuple #[.slice A m c, .nilIface])) ∧ w'.heap[D]? = some (.cells (zhA s win dict has size skip id ssz hs ok last comp out inn ck) 46 (0, 0)) ∧ Below D wa w') :
    Calls Tryd.prog 9 #[.slice A n c] w fun e w' => e = .returned (.tuple #[.agg (ihA s win dict has size skip id ssz hs ck ok last comp out inn), .int .i64 m, .bool true]) ∧ Below w.heap.size w w' := by
  have HK := Lib.hid K
  clear K
  go_enter Tryd.func9, Tryd.ntmps9
  go_wp2_with fail
  obtain ⟨B, hB⟩ : ∃ B, w.heap.size = B := ⟨_, rfl⟩
  have hal := alloc2_facts hB (.cells hdZ 28 (0, 0)) (.cells zhZ 46 (0, 0))
  obtain ⟨w2, hw2⟩ : ∃ w2, (w.alloc (.cells hdZ 28 (0, 0))).alloc (.cells zhZ 46 (0, 0)) = w2 := ⟨_, rfl⟩
  rw [hw2] at hal ⊢
  obtain ⟨hH2, hZ2, _, hbl⟩ := hal
  rw [hB]
  have HB := Lib.hid hB
  have hK := HK.out w2 (B + 1) (by rw [hB]) hZ2 (by rw [hB]; exact hbl)
  clear hw2 hB
  refine hK.mono ?_
  rintro e w8 ⟨⟨A8, c8, rfl⟩, hR8, hb8⟩
  clear hK HK hZ2
  have HH8 : Hid (w8.heap[B]? = some (.cells hdZ 28 (0, 0))) := Lib.hid ((hb8.block B (by omega)).trans hH2)
  have hb9 : Below B w w8 := hbl.trans (hb8.mono (by omega))
  clear hH2 hbl hb8
  have HR8 := Lib.hid hR8
  clear hR8
  go_wp2_with (refine wpList_load_row (by rfl) 46 (.tmp 5) (by rfl) (B + 1) (by rfl) 46 (zhA s win dict has size skip id ssz hs ok last comp out inn ck) (0, 0) _ HR8.out Tryd.underlying46 rfl size46 ?_)
  refine (told_any s win dict has size skip id ssz hs ok last comp out inn ck w8).mono ?_
  rintro e w' ⟨rfl, hb10⟩
  have hB8 : B < w8.heap.size := by have := hb9.size; rcases Nat.lt_or_ge B w8.heap.size with h | h
                                    · exact h
                                    · have h2 := HH8.out; rw [Array.getElem?_eq_none h] at h2; cases h2
  have HH9 : Hid (w'.heap[B]? = some (.cells hdZ 28 (0, 0))) := Lib.hid ((hb10.block B hB8).trans HH8.out)
  have hb11 : Below B w w' := hb9.trans (hb10.mono (by omega))
  clear hb10 hb9
  go_wp2_with (refine wpList_store_all (by rfl) 28 (.tmp 2) (.tmp 18) (by rfl) B (ihA s win dict has size skip id ssz hs ck ok last comp out inn) (by rfl) (by rfl) 28 hdZ HH9 size28 rfl (ihA_one ..) B (Nat.le_refl _) ?_; intro w9 HR9 hb12 HO9)
  obtain rfl := HB.out
  exact bodyPost_ret (results_cell_tmp2_row rfl _ w9 w.heap.size 28 _ (0, 0) _ rfl HR9.out Tryd.underlying28 rfl size28) rfl ⟨rfl, hb11.trans hb12⟩

set_option maxRecDepth 100000 in
set_option maxHeartbeats 800000 in
theorem strip_bad (A : Option Addr) (n c : Nat) (w : World)
    (K : ∀ wa D, D = w.heap.size + 1 → wa.heap[D]? = some (.cells zhZ 46 (0, 0)) → Below w.heap.size w wa → Calls Tryd.prog 15 #[.pointer (some ⟨D, 0, none⟩), .slice A n c] wa fun e w' => (∃ v T a, e = .returned (.tuple #[v, .iface T (.pointer (some a))])) ∧ Below D wa w') :
    Calls Tryd.prog 9 #[.slice A n c] w fun e w' => e = .returned (.tuple #[.agg hdZ, .int .i64 0, .bool false]) ∧ Below w.heap.size w w' := by
  have HK := Lib.hid K
  clear K
  go_enter Tryd.func9, Tryd.ntmps9
  go_wp2_with fail
  obtain ⟨B, hB⟩ : ∃ B, w.heap.size = B := ⟨_, rfl⟩
  have hal := alloc2_facts hB (.cells hdZ 28 (0, 0)) (.cells zhZ 46 (0, 0))
  obtain ⟨w2, hw2⟩ : ∃ w2, (w.alloc (.cells hdZ 28 (0, 0))).alloc (.cells zhZ 46 (0, 0)) = w2 := ⟨_, rfl⟩
  rw [hw2] at hal ⊢
  obtain ⟨hH2, hZ2, _, hbl⟩ := hal
  rw [hB]
  have HB := Lib.hid hB
  have hK := HK.out w2 (B + 1) (by rw [hB]) hZ2 (by rw [hB]; exact hbl)
  clear hw2 hB
  refine hK.mono ?_
  rintro e w8 ⟨⟨v, T, a, rfl⟩, hb8⟩
  clear hK HK hZ2
  have HH8 : Hid (w8.heap[B]? = some (.cells hdZ 28 (0, 0))) := Lib.hid ((hb8.block B (by omega)).trans hH2)
  have hb9 : Below B w w8 := hbl.trans (hb8.mono (by omega))
  clear hH2 hbl hb8
  go_wp2_with (refine wpList_store_all (by rfl) 28 (.tmp 2) (.tmp 16) (by rfl) B hdZ (by rfl) (by rfl) 28 hdZ HH8 size28 rfl (ihA_one ..) B (Nat.le_refl _) ?_; intro w9 HR9 hb12 HO9)
  obtain rfl := HB.out
  exact bodyPost_ret (results_cell_tmp2_row rfl _ w9 w.heap.size 28 _ (0, 0) _ rfl HR9.out Tryd.underlying28 rfl size28) rfl ⟨rfl, hb9.trans hb12⟩

end Go.Proofs.YtiobfiepapflaaaDoor
