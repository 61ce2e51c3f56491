/-
  DERIVED: THE SHELF's CONTRACTS AT THIS DUMP, IN PLAIN WORDS (tools/lay-plain.mjs out of 'Qxb6603167aDoorShelf.lean', which tools/lay-shelf.mjs wrote): THE SAME DECLARATIONS UNDER THE SAME NAMES: 'import', 'namespace', 'open', 'def', 'theorem' AND NOTHING ELSE: no command of the shelf's: FOR A HAND-IN. Each laying: the table of numbers ('.._ren') and one theorem, a field a fact of the dump's own or the kernel's comparison; each contract: ONE APPLICATION.
-/
import Derived.Shelf.Strings.LastIndexAll
import Derived.Shelf.Strings.Split
import Derived.Test.Qxb6603167aDoorProg
namespace Go.Proofs
open Go.Shelf
def Tryd.lays148_ren : Go.Shelf.Ren := ⟨fun | 148 => 21 | 222 => 23 | 223 => 24 | 269 => 28 | n => n, fun | 9 => 9 | 3 => 3 | 4 => 4 | 5 => 5 | 146 => 36 | 51 => 35 | 46 => 41 | n => n, fun | n => n⟩
theorem Tryd.lays148 : Go.Proofs.Lays.n148 Tryd.prog Tryd.lays148_ren := {
  mixed := by kernel_rfl
  f148 := Tryd.func21.trans (congrArg some (by kernel_rfl))
  f222 := Tryd.func23.trans (congrArg some (by kernel_rfl))
  f223 := Tryd.func24.trans (congrArg some (by kernel_rfl))
  f269 := Tryd.func28.trans (congrArg some (by kernel_rfl))
  t3 := Tryd.underlying3
  a3 := Tryd.isAgg3
  z3 := Tryd.sizeOf3
  v3 := Tryd.zeroValue3
  t4 := Tryd.underlying4
  a4 := Tryd.isAgg4
  z4 := Tryd.sizeOf4
  v4 := Tryd.zeroValue4
  t5 := Tryd.underlying5
  a5 := Tryd.isAgg5
  z5 := Tryd.sizeOf5
  v5 := Tryd.zeroValue5
  t9 := Tryd.underlying9
  a9 := Tryd.isAgg9
  z9 := Tryd.sizeOf9
  v9 := Tryd.zeroValue9
  t46 := Tryd.underlying41
  a46 := Tryd.isAgg41
  z46 := Tryd.sizeOf41
  v46 := Tryd.zeroValue41
  t51 := Tryd.underlying35
  a51 := Tryd.isAgg35
  z51 := Tryd.sizeOf35
  v51 := Tryd.zeroValue35
  t146 := Tryd.underlying36
  a146 := Tryd.isAgg36
  z146 := Tryd.sizeOf36
  v146 := Tryd.zeroValue36 }
open Go.RowKit Go.Lib in
/-- strings.LastIndex: "LastIndex returns the index of the last instance of substr in s, or -1 if substr is not present in s.": AT A substr OF WHATEVER LENGTH. (LAID: no walk: one application.) -/
theorem Tryd.strings_LastIndex (s sub : ByteArray) (hs : s.size < 4611686018427387904) (w : World) :
    Calls Tryd.prog 21 #[.string s, .string sub] w fun e w' => e = .returned (.int .i64 (Lib.lastIndex s.data.toList sub.data.toList)) ∧ w' = w := Any.strings_LastIndex Tryd.lays148 s sub hs w
def Tryd.lays146_ren : Go.Shelf.Ren := ⟨fun | 146 => 20 | 221 => 22 | 268 => 25 | 138 => 26 | 143 => 27 | 195 => 29 | 197 => 30 | 218 => 31 | 219 => 32 | 260 => 33 | 217 => 34 | 225 => 35 | 224 => 36 | 267 => 37 | 266 => 38 | 314 => 39 | n => n, fun | 9 => 9 | 31 => 29 | 3 => 3 | 4 => 4 | 0 => 0 | 105 => 39 | 21 => 21 | 5 => 5 | 46 => 41 | 119 => 43 | 139 => 46 | 138 => 45 | 146 => 36 | 51 => 35 | n => n, fun | 1 => 0 | 3 => 1 | 4 => 2 | n => n⟩
theorem Tryd.lays146 : Go.Proofs.Lays.n146 Tryd.prog Tryd.lays146_ren := {
  mixed := by kernel_rfl
  f138 := Tryd.func26.trans (congrArg some (by kernel_rfl))
  f143 := Tryd.func27.trans (congrArg some (by kernel_rfl))
  f146 := Tryd.func20.trans (congrArg some (by kernel_rfl))
  f195 := Tryd.func29.trans (congrArg some (by kernel_rfl))
  f197 := Tryd.func30.trans (congrArg some (by kernel_rfl))
  f217 := Tryd.func34.trans (congrArg some (by kernel_rfl))
  f218 := Tryd.func31.trans (congrArg some (by kernel_rfl))
  f219 := Tryd.func32.trans (congrArg some (by kernel_rfl))
  f221 := Tryd.func22.trans (congrArg some (by kernel_rfl))
  f224 := Tryd.func36.trans (congrArg some (by kernel_rfl))
  f225 := Tryd.func35.trans (congrArg some (by kernel_rfl))
  f260 := Tryd.func33.trans (congrArg some (by kernel_rfl))
  f266 := Tryd.func38.trans (congrArg some (by kernel_rfl))
  f267 := Tryd.func37.trans (congrArg some (by kernel_rfl))
  f268 := Tryd.func25.trans (congrArg some (by kernel_rfl))
  f314 := Tryd.func39.trans (congrArg some (by kernel_rfl))
  t0 := Tryd.underlying0
  a0 := Tryd.isAgg0
  z0 := Tryd.sizeOf0
  v0 := Tryd.zeroValue0
  t3 := Tryd.underlying3
  a3 := Tryd.isAgg3
  z3 := Tryd.sizeOf3
  v3 := Tryd.zeroValue3
  t4 := Tryd.underlying4
  a4 := Tryd.isAgg4
  z4 := Tryd.sizeOf4
  v4 := Tryd.zeroValue4
  t5 := Tryd.underlying5
  a5 := Tryd.isAgg5
  z5 := Tryd.sizeOf5
  v5 := Tryd.zeroValue5
  t9 := Tryd.underlying9
  a9 := Tryd.isAgg9
  z9 := Tryd.sizeOf9
  v9 := Tryd.zeroValue9
  t21 := Tryd.underlying21
  a21 := Tryd.isAgg21
  z21 := Tryd.sizeOf21
  v21 := Tryd.zeroValue21
  t31 := Tryd.underlying29
  a31 := Tryd.isAgg29
  z31 := Tryd.sizeOf29
  v31 := Tryd.zeroValue29
  t46 := Tryd.underlying41
  a46 := Tryd.isAgg41
  z46 := Tryd.sizeOf41
  v46 := Tryd.zeroValue41
  t51 := Tryd.underlying35
  a51 := Tryd.isAgg35
  z51 := Tryd.sizeOf35
  v51 := Tryd.zeroValue35
  t105 := Tryd.underlying39
  a105 := Tryd.isAgg39
  z105 := Tryd.sizeOf39
  v105 := Tryd.zeroValue39
  t119 := Tryd.underlying43
  a119 := Tryd.isAgg43
  z119 := Tryd.sizeOf43
  t138 := Tryd.underlying45
  a138 := Tryd.isAgg45
  z138 := Tryd.sizeOf45
  v138 := Tryd.zeroValue45
  t139 := Tryd.underlying46
  a139 := Tryd.isAgg46
  z139 := Tryd.sizeOf46
  v139 := Tryd.zeroValue46
  t146 := Tryd.underlying36
  a146 := Tryd.isAgg36
  z146 := Tryd.sizeOf36
  v146 := Tryd.zeroValue36
  g1 := by kernel_rfl
  g3 := by kernel_rfl
  g4 := by kernel_rfl }
open Go.RowKit Go.Lib in
/-- strings.Split. (LAID: no walk: one application.) -/
theorem Tryd.strings_Split (s sep : ByteArray) (m : Int) (w : World) (hs : s.size < 4294967281) (hm : w.cell? ⟨0, 0, none⟩ = some (.int .i64 m)) (h1 : 1 ≤ sep.size) :
    Calls Tryd.prog 20 #[.string s, .string sep] w fun e w' =>
      e = .returned (.slice (some ⟨w.heap.size, 0, none⟩) (Lib.countB s sep + 1) (Lib.countB s sep + 1)) ∧ w' = w.alloc (.cells ((Lib.splitB sep 0 (Lib.countB s sep) s).map Value.string).toArray 9) := Any.strings_Split Tryd.lays146 (by kernel_rfl) s sep m w hs hm h1
end Go.Proofs
