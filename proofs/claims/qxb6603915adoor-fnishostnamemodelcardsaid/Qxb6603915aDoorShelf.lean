/-
  DERIVED: THE SHELF's CONTRACTS AT THIS DUMP, IN PLAIN WORDS (tools/lay-plain.mjs out of 'Qxb6603915aDoorShelf.lean', which tools/lay-shelf.mjs wrote): THE SAME DECLARATIONS UNDER THE SAME NAMES: 'import', 'namespace', 'open', 'def', 'theorem' AND NOTHING ELSE: no command of the shelf's: FOR A HAND-IN. Each laying: the table of numbers ('.._ren') and one theorem, a field a fact of the dump's own or the kernel's comparison; each contract: ONE APPLICATION.
-/
import Derived.Shelf.Strings.Split
import Derived.Test.Qxb6603915aDoorProg
namespace Go.Proofs
open Go.Shelf
def Tryd.lays146_ren : Go.Shelf.Ren := ⟨fun | 146 => 9 | 221 => 10 | 268 => 11 | 138 => 12 | 143 => 13 | 195 => 14 | 197 => 15 | 218 => 16 | 219 => 17 | 260 => 18 | 217 => 19 | 225 => 20 | 224 => 21 | 267 => 22 | 266 => 23 | 314 => 24 | n => n, fun | 9 => 9 | 31 => 24 | 3 => 3 | 4 => 4 | 0 => 0 | 105 => 30 | 21 => 21 | 5 => 5 | 46 => 34 | 119 => 35 | 139 => 38 | 138 => 37 | 146 => 40 | 51 => 39 | n => n, fun | 1 => 0 | 3 => 1 | 4 => 2 | n => n⟩
theorem Tryd.lays146 : Go.Proofs.Lays.n146 Tryd.prog Tryd.lays146_ren := {
  mixed := by kernel_rfl
  f138 := Tryd.func12.trans (congrArg some (by kernel_rfl))
  f143 := Tryd.func13.trans (congrArg some (by kernel_rfl))
  f146 := Tryd.func9.trans (congrArg some (by kernel_rfl))
  f195 := Tryd.func14.trans (congrArg some (by kernel_rfl))
  f197 := Tryd.func15.trans (congrArg some (by kernel_rfl))
  f217 := Tryd.func19.trans (congrArg some (by kernel_rfl))
  f218 := Tryd.func16.trans (congrArg some (by kernel_rfl))
  f219 := Tryd.func17.trans (congrArg some (by kernel_rfl))
  f221 := Tryd.func10.trans (congrArg some (by kernel_rfl))
  f224 := Tryd.func21.trans (congrArg some (by kernel_rfl))
  f225 := Tryd.func20.trans (congrArg some (by kernel_rfl))
  f260 := Tryd.func18.trans (congrArg some (by kernel_rfl))
  f266 := Tryd.func23.trans (congrArg some (by kernel_rfl))
  f267 := Tryd.func22.trans (congrArg some (by kernel_rfl))
  f268 := Tryd.func11.trans (congrArg some (by kernel_rfl))
  f314 := Tryd.func24.trans (congrArg some (by kernel_rfl))
  t0 := Tryd.underlying0
  a0 := Tryd.isAgg0
  z0 := Tryd.sizeOf0
  v0 := Tryd.zeroValue0
  t3 := Tryd.underlying3
  a3 := Tryd.isAgg3
  z3 := Tryd.sizeOf3
  v3 := Tryd.zeroValue3
  t4 := Tryd.underlying4
  a4 := Tryd.isAgg4
  z4 := Tryd.sizeOf4
  v4 := Tryd.zeroValue4
  t5 := Tryd.underlying5
  a5 := Tryd.isAgg5
  z5 := Tryd.sizeOf5
  v5 := Tryd.zeroValue5
  t9 := Tryd.underlying9
  a9 := Tryd.isAgg9
  z9 := Tryd.sizeOf9
  v9 := Tryd.zeroValue9
  t21 := Tryd.underlying21
  a21 := Tryd.isAgg21
  z21 := Tryd.sizeOf21
  v21 := Tryd.zeroValue21
  t31 := Tryd.underlying24
  a31 := Tryd.isAgg24
  z31 := Tryd.sizeOf24
  v31 := Tryd.zeroValue24
  t46 := Tryd.underlying34
  a46 := Tryd.isAgg34
  z46 := Tryd.sizeOf34
  v46 := Tryd.zeroValue34
  t51 := Tryd.underlying39
  a51 := Tryd.isAgg39
  z51 := Tryd.sizeOf39
  v51 := Tryd.zeroValue39
  t105 := Tryd.underlying30
  a105 := Tryd.isAgg30
  z105 := Tryd.sizeOf30
  v105 := Tryd.zeroValue30
  t119 := Tryd.underlying35
  a119 := Tryd.isAgg35
  z119 := Tryd.sizeOf35
  t138 := Tryd.underlying37
  a138 := Tryd.isAgg37
  z138 := Tryd.sizeOf37
  v138 := Tryd.zeroValue37
  t139 := Tryd.underlying38
  a139 := Tryd.isAgg38
  z139 := Tryd.sizeOf38
  v139 := Tryd.zeroValue38
  t146 := Tryd.underlying40
  a146 := Tryd.isAgg40
  z146 := Tryd.sizeOf40
  v146 := Tryd.zeroValue40
  g1 := by kernel_rfl
  g3 := by kernel_rfl
  g4 := by kernel_rfl }
open Go.RowKit Go.Lib in
/-- strings.Split. (LAID: no walk: one application.) -/
theorem Tryd.strings_Split (s sep : ByteArray) (m : Int) (w : World) (hs : s.size < 4294967281) (hm : w.cell? ⟨0, 0, none⟩ = some (.int .i64 m)) (h1 : 1 ≤ sep.size) :
    Calls Tryd.prog 9 #[.string s, .string sep] w fun e w' =>
      e = .returned (.slice (some ⟨w.heap.size, 0, none⟩) (Lib.countB s sep + 1) (Lib.countB s sep + 1)) ∧ w' = w.alloc (.cells ((Lib.splitB sep 0 (Lib.countB s sep) s).map Value.string).toArray 9) := Any.strings_Split Tryd.lays146 (by kernel_rfl) s sep m w hs hm h1
end Go.Proofs
