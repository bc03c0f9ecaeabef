/-
  A header that is given as an argument: its fields. Conditions: those of the theorem.
-/
import Derived.Test.YtiobfiepapflaaaDoorRead
import Derived.ChangeShapes
import Derived.ChangeSame
namespace Go.Proofs.YtiobfiepapflaaaDoor
open Go.RowKit Go.WideShapes Go.ChangeShapes

theorem openH {H : Type} {enc : TypeId × Value → H} {W : World} {base b0 : Nat} {r : Reach} {spare : Nat → Bool} {held : Bool} {v : Value} {d : DataW H} {ps : List MemPlace} (hval : Value.okWide Tryd.prog W r b0 28 v) (hd : DataW.Trod enc Tryd.prog W base spare held 28 v d ps) :
    ∃ (s : Bool) (win dict : Int) (has : Bool) (size : Int) (skip : Bool) (id ssz hs : Int) (ck ok last comp : Bool) (out inn : Int), v = .agg (ihA s win dict has size skip id ssz hs ck ok last comp out inn) ∧ (Lit.int .u64 win).wf = true ∧ (Lit.int .u32 dict).wf = true ∧ (Lit.int .u64 size).wf = true ∧ (Lit.int .u32 ssz).wf = true := by
  obtain ⟨⟨cs⟩, rfl, hsz⟩ := okWide_struct Tryd.underlying28 hval
  obtain ⟨fuel, hf⟩ := hd
  obtain ⟨xs, n, _, _, _, hlen, hfs⟩ := DataW.trod_struct Tryd.underlying28 hf
  have c28 : Tryd.prog.cellsOf 28 = 15 := by kernel_rfl
  have c26 : Tryd.prog.cellsOf 26 = 5 := by kernel_rfl
  have c4 : Tryd.prog.cellsOf 4 = 1 := by kernel_rfl
  have c23 : Tryd.prog.cellsOf 23 = 1 := by kernel_rfl
  have c24 : Tryd.prog.cellsOf 24 = 1 := by kernel_rfl
  have c2 : Tryd.prog.cellsOf 2 = 1 := by kernel_rfl
  rw [c28] at hsz
  replace hlen : xs.length = 11 := hlen
  match cs, hsz with
  | [c0_, c1_, c2_, c3_, c4_, c5_, c6_, c7_, c8_, c9_, c10_, c11_, c12_, c13_, c14_], _ =>
  obtain ⟨ys, gs⟩ : ∃ y, DataW.trod enc Tryd.prog W base spare held n 4 [c0_] = some y := by
    have h := hfs 0 _ rfl
    rw [List.getElem?_eq_getElem (by rw [hlen]; decide)] at h
    exact ⟨_, by simpa [c4, c23, c24, c2, c26, Value.cells] using h⟩
  obtain ⟨s, es, _⟩ := DataW.trod_bool Tryd.underlying4 gs
  obtain rfl : c0_ = .bool s := by simpa using es
  obtain ⟨ywin, gwin⟩ : ∃ y, DataW.trod enc Tryd.prog W base spare held n 23 [c1_] = some y := by
    have h := hfs 1 _ rfl
    rw [List.getElem?_eq_getElem (by rw [hlen]; decide)] at h
    exact ⟨_, by simpa [c4, c23, c24, c2, c26, Value.cells] using h⟩
  obtain ⟨win, ewin, _, wwin⟩ := DataW.trod_int Tryd.underlying23 gwin
  obtain rfl : c1_ = .int .u64 win := by simpa using ewin
  obtain ⟨ydict, gdict⟩ : ∃ y, DataW.trod enc Tryd.prog W base spare held n 24 [c2_] = some y := by
    have h := hfs 2 _ rfl
    rw [List.getElem?_eq_getElem (by rw [hlen]; decide)] at h
    exact ⟨_, by simpa [c4, c23, c24, c2, c26, Value.cells] using h⟩
  obtain ⟨dict, edict, _, wdict⟩ := DataW.trod_int Tryd.underlying24 gdict
  obtain rfl : c2_ = .int .u32 dict := by simpa using edict
  obtain ⟨yhas, ghas⟩ : ∃ y, DataW.trod enc Tryd.prog W base spare held n 4 [c3_] = some y := by
    have h := hfs 3 _ rfl
    rw [List.getElem?_eq_getElem (by rw [hlen]; decide)] at h
    exact ⟨_, by simpa [c4, c23, c24, c2, c26, Value.cells] using h⟩
  obtain ⟨has, ehas, _⟩ := DataW.trod_bool Tryd.underlying4 ghas
  obtain rfl : c3_ = .bool has := by simpa using ehas
  obtain ⟨ysize, gsize⟩ : ∃ y, DataW.trod enc Tryd.prog W base spare held n 23 [c4_] = some y := by
    have h := hfs 4 _ rfl
    rw [List.getElem?_eq_getElem (by rw [hlen]; decide)] at h
    exact ⟨_, by simpa [c4, c23, c24, c2, c26, Value.cells] using h⟩
  obtain ⟨size, esize, _, wsize⟩ := DataW.trod_int Tryd.underlying23 gsize
  obtain rfl : c4_ = .int .u64 size := by simpa using esize
  obtain ⟨yskip, gskip⟩ : ∃ y, DataW.trod enc Tryd.prog W base spare held n 4 [c5_] = some y := by
    have h := hfs 5 _ rfl
    rw [List.getElem?_eq_getElem (by rw [hlen]; decide)] at h
    exact ⟨_, by simpa [c4, c23, c24, c2, c26, Value.cells] using h⟩
  obtain ⟨skip, eskip, _⟩ := DataW.trod_bool Tryd.underlying4 gskip
  obtain rfl : c5_ = .bool skip := by simpa using eskip
  obtain ⟨yid, gid⟩ : ∃ y, DataW.trod enc Tryd.prog W base spare held n 2 [c6_] = some y := by
    have h := hfs 6 _ rfl
    rw [List.getElem?_eq_getElem (by rw [hlen]; decide)] at h
    exact ⟨_, by simpa [c4, c23, c24, c2, c26, Value.cells] using h⟩
  obtain ⟨id, eid, _, wid⟩ := DataW.trod_int Tryd.underlying2 gid
  obtain rfl : c6_ = .int .i64 id := by simpa using eid
  obtain ⟨yssz, gssz⟩ : ∃ y, DataW.trod enc Tryd.prog W base spare held n 24 [c7_] = some y := by
    have h := hfs 7 _ rfl
    rw [List.getElem?_eq_getElem (by rw [hlen]; decide)] at h
    exact ⟨_, by simpa [c4, c23, c24, c2, c26, Value.cells] using h⟩
  obtain ⟨ssz, essz, _, wssz⟩ := DataW.trod_int Tryd.underlying24 gssz
  obtain rfl : c7_ = .int .u32 ssz := by simpa using essz
  obtain ⟨yhs, ghs⟩ : ∃ y, DataW.trod enc Tryd.prog W base spare held n 2 [c8_] = some y := by
    have h := hfs 8 _ rfl
    rw [List.getElem?_eq_getElem (by rw [hlen]; decide)] at h
    exact ⟨_, by simpa [c4, c23, c24, c2, c26, Value.cells] using h⟩
  obtain ⟨hs, ehs, _, whs⟩ := DataW.trod_int Tryd.underlying2 ghs
  obtain rfl : c8_ = .int .i64 hs := by simpa using ehs
  obtain ⟨yck, gck⟩ : ∃ y, DataW.trod enc Tryd.prog W base spare held n 4 [c9_] = some y := by
    have h := hfs 9 _ rfl
    rw [List.getElem?_eq_getElem (by rw [hlen]; decide)] at h
    exact ⟨_, by simpa [c4, c23, c24, c2, c26, Value.cells] using h⟩
  obtain ⟨ck, eck, _⟩ := DataW.trod_bool Tryd.underlying4 gck
  obtain rfl : c9_ = .bool ck := by simpa using eck
  obtain ⟨yB, gB⟩ : ∃ y, DataW.trod enc Tryd.prog W base spare held n 26 [c10_, c11_, c12_, c13_, c14_] = some y := by
    have h := hfs 10 _ rfl
    rw [List.getElem?_eq_getElem (by rw [hlen]; decide)] at h
    exact ⟨_, by simpa [c4, c23, c24, c2, c26, Value.cells] using h⟩
  obtain ⟨xb, nb, _, _, _, hlenb, hfb⟩ := DataW.trod_struct Tryd.underlying26 gB
  replace hlenb : xb.length = 5 := hlenb
  obtain ⟨yok, gok⟩ : ∃ y, DataW.trod enc Tryd.prog W base spare held nb 4 [c10_] = some y := by
    have h := hfb 0 _ rfl
    rw [List.getElem?_eq_getElem (by rw [hlenb]; decide)] at h
    exact ⟨_, by simpa [c4, c23, c24, c2, c26, Value.cells] using h⟩
  obtain ⟨ok, eok, _⟩ := DataW.trod_bool Tryd.underlying4 gok
  obtain rfl : c10_ = .bool ok := by simpa using eok
  obtain ⟨ylast, glast⟩ : ∃ y, DataW.trod enc Tryd.prog W base spare held nb 4 [c11_] = some y := by
    have h := hfb 1 _ rfl
    rw [List.getElem?_eq_getElem (by rw [hlenb]; decide)] at h
    exact ⟨_, by simpa [c4, c23, c24, c2, c26, Value.cells] using h⟩
  obtain ⟨last, elast, _⟩ := DataW.trod_bool Tryd.underlying4 glast
  obtain rfl : c11_ = .bool last := by simpa using elast
  obtain ⟨ycomp, gcomp⟩ : ∃ y, DataW.trod enc Tryd.prog W base spare held nb 4 [c12_] = some y := by
    have h := hfb 2 _ rfl
    rw [List.getElem?_eq_getElem (by rw [hlenb]; decide)] at h
    exact ⟨_, by simpa [c4, c23, c24, c2, c26, Value.cells] using h⟩
  obtain ⟨comp, ecomp, _⟩ := DataW.trod_bool Tryd.underlying4 gcomp
  obtain rfl : c12_ = .bool comp := by simpa using ecomp
  obtain ⟨yout, gout⟩ : ∃ y, DataW.trod enc Tryd.prog W base spare held nb 2 [c13_] = some y := by
    have h := hfb 3 _ rfl
    rw [List.getElem?_eq_getElem (by rw [hlenb]; decide)] at h
    exact ⟨_, by simpa [c4, c23, c24, c2, c26, Value.cells] using h⟩
  obtain ⟨out, eout, _, wout⟩ := DataW.trod_int Tryd.underlying2 gout
  obtain rfl : c13_ = .int .i64 out := by simpa using eout
  obtain ⟨yinn, ginn⟩ : ∃ y, DataW.trod enc Tryd.prog W base spare held nb 2 [c14_] = some y := by
    have h := hfb 4 _ rfl
    rw [List.getElem?_eq_getElem (by rw [hlenb]; decide)] at h
    exact ⟨_, by simpa [c4, c23, c24, c2, c26, Value.cells] using h⟩
  obtain ⟨inn, einn, _, winn⟩ := DataW.trod_int Tryd.underlying2 ginn
  obtain rfl : c14_ = .int .i64 inn := by simpa using einn
  exact ⟨s, win, dict, has, size, skip, id, ssz, hs, ck, ok, last, comp, out, inn, rfl, wwin, wdict, wsize, wssz⟩
end Go.Proofs.YtiobfiepapflaaaDoor
