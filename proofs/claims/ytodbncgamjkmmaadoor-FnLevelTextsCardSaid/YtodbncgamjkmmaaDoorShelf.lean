/-
  DERIVED: THE SHELF's CONTRACTS AT THIS DUMP, IN PLAIN WORDS (tools/lay-plain.mjs out of 'TrydShelf.lean', which tools/lay-shelf.mjs wrote): THE SAME DECLARATIONS UNDER THE SAME NAMES: 'import', 'namespace', 'open', 'def', 'theorem' AND NOTHING ELSE: no command of the shelf's: FOR A HAND-IN. Each laying: the table of numbers ('.._ren') and one theorem, a field a fact of the dump's own or the kernel's comparison; each contract: ONE APPLICATION.
-/
import Derived.Shelf.Strings.Fold
import Derived.Test.YtodbncgamjkmmaaDoorProg
namespace Go.Proofs
open Go.Shelf
def Tryd.lays164_ren : Go.Shelf.Ren := ⟨fun | 164 => 12 | 197 => 13 | 239 => 14 | 260 => 15 | 274 => 16 | 275 => 17 | n => n, fun | 9 => 9 | 4 => 4 | 3 => 3 | 5 => 5 | 0 => 0 | 21 => 21 | 105 => 35 | 156 => 39 | 49 => 38 | 157 => 40 | 46 => 41 | 159 => 43 | 162 => 46 | 160 => 44 | 119 => 48 | 139 => 51 | 138 => 50 | 208 => 56 | 51 => 52 | 206 => 54 | n => n, fun | 11 => 0 | 12 => 1 | 13 => 2 | 3 => 3 | 4 => 4 | n => n⟩
theorem Tryd.lays164 : Go.Proofs.Lays.n164 Tryd.prog Tryd.lays164_ren := {
  mixed := by kernel_rfl
  f164 := Tryd.func12.trans (congrArg some (by kernel_rfl))
  f197 := Tryd.func13.trans (congrArg some (by kernel_rfl))
  f239 := Tryd.func14.trans (congrArg some (by kernel_rfl))
  f260 := Tryd.func15.trans (congrArg some (by kernel_rfl))
  f274 := Tryd.func16.trans (congrArg some (by kernel_rfl))
  f275 := Tryd.func17.trans (congrArg some (by kernel_rfl))
  t0 := Tryd.underlying0
  a0 := Tryd.isAgg0
  z0 := Tryd.sizeOf0
  v0 := Tryd.zeroValue0
  t3 := Tryd.underlying3
  a3 := Tryd.isAgg3
  z3 := Tryd.sizeOf3
  v3 := Tryd.zeroValue3
  t4 := Tryd.underlying4
  a4 := Tryd.isAgg4
  z4 := Tryd.sizeOf4
  v4 := Tryd.zeroValue4
  t5 := Tryd.underlying5
  a5 := Tryd.isAgg5
  z5 := Tryd.sizeOf5
  v5 := Tryd.zeroValue5
  t9 := Tryd.underlying9
  a9 := Tryd.isAgg9
  z9 := Tryd.sizeOf9
  v9 := Tryd.zeroValue9
  t21 := Tryd.underlying21
  a21 := Tryd.isAgg21
  z21 := Tryd.sizeOf21
  v21 := Tryd.zeroValue21
  t46 := Tryd.underlying41
  a46 := Tryd.isAgg41
  z46 := Tryd.sizeOf41
  v46 := Tryd.zeroValue41
  t49 := Tryd.underlying38
  a49 := Tryd.isAgg38
  z49 := Tryd.sizeOf38
  v49 := Tryd.zeroValue38
  t51 := Tryd.underlying52
  a51 := Tryd.isAgg52
  z51 := Tryd.sizeOf52
  v51 := Tryd.zeroValue52
  t105 := Tryd.underlying35
  a105 := Tryd.isAgg35
  z105 := Tryd.sizeOf35
  v105 := Tryd.zeroValue35
  t119 := Tryd.underlying48
  a119 := Tryd.isAgg48
  z119 := Tryd.sizeOf48
  t138 := Tryd.underlying50
  a138 := Tryd.isAgg50
  z138 := Tryd.sizeOf50
  v138 := Tryd.zeroValue50
  t139 := Tryd.underlying51
  a139 := Tryd.isAgg51
  z139 := Tryd.sizeOf51
  v139 := Tryd.zeroValue51
  t156 := Tryd.underlying39
  a156 := Tryd.isAgg39
  z156 := Tryd.sizeOf39
  t157 := Tryd.underlying40
  a157 := Tryd.isAgg40
  z157 := Tryd.sizeOf40
  v157 := Tryd.zeroValue40
  t159 := Tryd.underlying43
  a159 := Tryd.isAgg43
  z159 := Tryd.sizeOf43
  v159 := Tryd.zeroValue43
  t160 := Tryd.underlying44
  a160 := Tryd.isAgg44
  z160 := Tryd.sizeOf44
  v160 := Tryd.zeroValue44
  t162 := Tryd.underlying46
  a162 := Tryd.isAgg46
  z162 := Tryd.sizeOf46
  v162 := Tryd.zeroValue46
  t206 := Tryd.underlying54
  a206 := Tryd.isAgg54
  z206 := Tryd.sizeOf54
  v206 := Tryd.zeroValue54
  t208 := Tryd.underlying56
  a208 := Tryd.isAgg56
  z208 := Tryd.sizeOf56
  v208 := Tryd.zeroValue56
  g3 := by kernel_rfl
  g4 := by kernel_rfl
  g11 := by kernel_rfl
  g12 := by kernel_rfl
  g13 := by kernel_rfl }
open Go.RowKit Go.Lib in
theorem Tryd.strings_EqualFold (s t : ByteArray) (w : World) (hs : s.size < 4294967281) (has : ∀ (j : Nat) b, s.data.toList[j]? = some b → b.toNat < 128) (hat : ∀ (j : Nat) b, t.data.toList[j]? = some b → b.toNat < 128) :
    Calls Tryd.prog 12 #[.string s, .string t] w fun e w' => e = .returned (.bool (Lib.equalFold s.data.toList t.data.toList)) ∧ w' = w := Any.strings_EqualFold Tryd.lays164 s t w hs has hat
end Go.Proofs
