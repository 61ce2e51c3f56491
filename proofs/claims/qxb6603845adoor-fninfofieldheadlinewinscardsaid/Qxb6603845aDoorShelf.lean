/-
  DERIVED: THE SHELF's CONTRACTS AT THIS DUMP, IN PLAIN WORDS (tools/lay-plain.mjs out of 'Qxb6603845aDoorShelf.lean', which tools/lay-shelf.mjs wrote): THE SAME DECLARATIONS UNDER THE SAME NAMES: 'import', 'namespace', 'open', 'def', 'theorem' AND NOTHING ELSE: no command of the shelf's: FOR A HAND-IN. Each laying: the table of numbers ('.._ren') and one theorem, a field a fact of the dump's own or the kernel's comparison; each contract: ONE APPLICATION.
-/
import Derived.Shelf.Strings.TrimSpace
import Derived.Shelf.Small.Strs
import Derived.Shelf.Strings.Cut
import Derived.Shelf.Strings.TrimSpaceAny
import Derived.Test.Qxb6603845aDoorProg
namespace Go.Proofs
open Go.Shelf
def Tryd.lays163_ren : Go.Shelf.Ren := ⟨fun | 163 => 15 | 237 => 19 | 199 => 20 | 238 => 21 | 272 => 24 | 261 => 25 | 273 => 26 | 197 => 27 | 315 => 32 | 311 => 33 | 312 => 34 | 271 => 35 | 260 => 36 | 120 => 38 | n => n, fun | 9 => 9 | 37 => 37 | 3 => 3 | 0 => 0 | 5 => 5 | 4 => 4 | 40 => 39 | 119 => 40 | 21 => 21 | 51 => 42 | 141 => 44 | 105 => 46 | 196 => 53 | 193 => 50 | 198 => 56 | 49 => 54 | 194 => 51 | 201 => 59 | 226 => 63 | 46 => 49 | 227 => 64 | 139 => 67 | 138 => 66 | n => n, fun | 0 => 0 | 6 => 1 | 3 => 3 | 4 => 4 | n => n⟩
theorem Tryd.lays163 : Go.Proofs.Lays.n163 Tryd.prog Tryd.lays163_ren := {
  mixed := by kernel_rfl
  f120 := Tryd.func38.trans (congrArg some (by kernel_rfl))
  f163 := Tryd.func15.trans (congrArg some (by kernel_rfl))
  f197 := Tryd.func27.trans (congrArg some (by kernel_rfl))
  f199 := Tryd.func20.trans (congrArg some (by kernel_rfl))
  f237 := Tryd.func19.trans (congrArg some (by kernel_rfl))
  f238 := Tryd.func21.trans (congrArg some (by kernel_rfl))
  f260 := Tryd.func36.trans (congrArg some (by kernel_rfl))
  f261 := Tryd.func25.trans (congrArg some (by kernel_rfl))
  f271 := Tryd.func35.trans (congrArg some (by kernel_rfl))
  f272 := Tryd.func24.trans (congrArg some (by kernel_rfl))
  f273 := Tryd.func26.trans (congrArg some (by kernel_rfl))
  f311 := Tryd.func33.trans (congrArg some (by kernel_rfl))
  f312 := Tryd.func34.trans (congrArg some (by kernel_rfl))
  f315 := Tryd.func32.trans (congrArg some (by kernel_rfl))
  t0 := Tryd.underlying0
  a0 := Tryd.isAgg0
  z0 := Tryd.sizeOf0
  v0 := Tryd.zeroValue0
  t3 := Tryd.underlying3
  a3 := Tryd.isAgg3
  z3 := Tryd.sizeOf3
  v3 := Tryd.zeroValue3
  t4 := Tryd.underlying4
  a4 := Tryd.isAgg4
  z4 := Tryd.sizeOf4
  v4 := Tryd.zeroValue4
  t5 := Tryd.underlying5
  a5 := Tryd.isAgg5
  z5 := Tryd.sizeOf5
  v5 := Tryd.zeroValue5
  t9 := Tryd.underlying9
  a9 := Tryd.isAgg9
  z9 := Tryd.sizeOf9
  v9 := Tryd.zeroValue9
  t21 := Tryd.underlying21
  a21 := Tryd.isAgg21
  z21 := Tryd.sizeOf21
  v21 := Tryd.zeroValue21
  t37 := Tryd.underlying37
  a37 := Tryd.isAgg37
  z37 := Tryd.sizeOf37
  v37 := Tryd.zeroValue37
  t40 := Tryd.underlying39
  a40 := Tryd.isAgg39
  z40 := Tryd.sizeOf39
  v40 := Tryd.zeroValue39
  t46 := Tryd.underlying49
  a46 := Tryd.isAgg49
  z46 := Tryd.sizeOf49
  v46 := Tryd.zeroValue49
  t49 := Tryd.underlying54
  a49 := Tryd.isAgg54
  z49 := Tryd.sizeOf54
  v49 := Tryd.zeroValue54
  t51 := Tryd.underlying42
  a51 := Tryd.isAgg42
  z51 := Tryd.sizeOf42
  v51 := Tryd.zeroValue42
  t105 := Tryd.underlying46
  a105 := Tryd.isAgg46
  z105 := Tryd.sizeOf46
  v105 := Tryd.zeroValue46
  t119 := Tryd.underlying40
  a119 := Tryd.isAgg40
  z119 := Tryd.sizeOf40
  t138 := Tryd.underlying66
  a138 := Tryd.isAgg66
  z138 := Tryd.sizeOf66
  v138 := Tryd.zeroValue66
  t139 := Tryd.underlying67
  a139 := Tryd.isAgg67
  z139 := Tryd.sizeOf67
  v139 := Tryd.zeroValue67
  t141 := Tryd.underlying44
  a141 := Tryd.isAgg44
  z141 := Tryd.sizeOf44
  v141 := Tryd.zeroValue44
  t193 := Tryd.underlying50
  a193 := Tryd.isAgg50
  z193 := Tryd.sizeOf50
  v193 := Tryd.zeroValue50
  t194 := Tryd.underlying51
  a194 := Tryd.isAgg51
  z194 := Tryd.sizeOf51
  v194 := Tryd.zeroValue51
  t196 := Tryd.underlying53
  a196 := Tryd.isAgg53
  z196 := Tryd.sizeOf53
  v196 := Tryd.zeroValue53
  t198 := Tryd.underlying56
  a198 := Tryd.isAgg56
  z198 := Tryd.sizeOf56
  v198 := Tryd.zeroValue56
  t201 := Tryd.underlying59
  a201 := Tryd.isAgg59
  z201 := Tryd.sizeOf59
  v201 := Tryd.zeroValue59
  t226 := Tryd.underlying63
  a226 := Tryd.isAgg63
  z226 := Tryd.sizeOf63
  v226 := Tryd.zeroValue63
  t227 := Tryd.underlying64
  a227 := Tryd.isAgg64
  z227 := Tryd.sizeOf64
  v227 := Tryd.zeroValue64
  g0 := by kernel_rfl
  g3 := by kernel_rfl
  g4 := by kernel_rfl
  g6 := by kernel_rfl }
theorem Tryd.Space_Extra_163 : Space.Extra Tryd.prog Tryd.lays163_ren := {
  gNamed := by kernel_rfl }
def Tryd.lays137_ren : Go.Shelf.Ren := ⟨fun | 137 => 17 | 217 => 22 | 266 => 28 | n => n, fun | 9 => 9 | 5 => 5 | 3 => 3 | n => n, fun | n => n⟩
theorem Tryd.lays137 : Go.Proofs.Lays.n137 Tryd.prog Tryd.lays137_ren := {
  mixed := by kernel_rfl
  f137 := Tryd.func17.trans (congrArg some (by kernel_rfl))
  f217 := Tryd.func22.trans (congrArg some (by kernel_rfl))
  f266 := Tryd.func28.trans (congrArg some (by kernel_rfl))
  t3 := Tryd.underlying3
  a3 := Tryd.isAgg3
  z3 := Tryd.sizeOf3
  v3 := Tryd.zeroValue3
  t5 := Tryd.underlying5
  a5 := Tryd.isAgg5
  z5 := Tryd.sizeOf5
  v5 := Tryd.zeroValue5
  t9 := Tryd.underlying9
  a9 := Tryd.isAgg9
  z9 := Tryd.sizeOf9
  v9 := Tryd.zeroValue9 }
open Go.RowKit in
/-- strings.IndexByte: "IndexByte returns the index of the first instance of c in s, or -1 if c is not present in s.": IT RETURNS 'Lib.indexByte s c'; the world is as it was. (LAID: no walk: one application.) -/
theorem Tryd.strings_IndexByte (s : ByteArray) (c : Int) (w : World) :
    Calls Tryd.prog 17 #[.string s, .int .u8 c] w fun e w' => e = .returned (.int .i64 (Lib.indexByte s.data.toList c.toNat.toUInt8)) ∧ w' = w := Any.strings_IndexByte Tryd.lays137 s c w
def Tryd.lays145_ren : Go.Shelf.Ren := ⟨fun | 145 => 14 | 220 => 18 | 219 => 23 | 217 => 22 | 225 => 29 | 224 => 30 | 267 => 31 | 266 => 28 | 314 => 37 | n => n, fun | 9 => 9 | 4 => 4 | 59 => 33 | 3 => 3 | 5 => 5 | 46 => 49 | 146 => 61 | 51 => 42 | n => n, fun | 1 => 2 | n => n⟩
theorem Tryd.lays145 : Go.Proofs.Lays.n145 Tryd.prog Tryd.lays145_ren := {
  mixed := by kernel_rfl
  f145 := Tryd.func14.trans (congrArg some (by kernel_rfl))
  f217 := Tryd.func22.trans (congrArg some (by kernel_rfl))
  f219 := Tryd.func23.trans (congrArg some (by kernel_rfl))
  f220 := Tryd.func18.trans (congrArg some (by kernel_rfl))
  f224 := Tryd.func30.trans (congrArg some (by kernel_rfl))
  f225 := Tryd.func29.trans (congrArg some (by kernel_rfl))
  f266 := Tryd.func28.trans (congrArg some (by kernel_rfl))
  f267 := Tryd.func31.trans (congrArg some (by kernel_rfl))
  f314 := Tryd.func37.trans (congrArg some (by kernel_rfl))
  t3 := Tryd.underlying3
  a3 := Tryd.isAgg3
  z3 := Tryd.sizeOf3
  v3 := Tryd.zeroValue3
  t4 := Tryd.underlying4
  a4 := Tryd.isAgg4
  z4 := Tryd.sizeOf4
  v4 := Tryd.zeroValue4
  t5 := Tryd.underlying5
  a5 := Tryd.isAgg5
  z5 := Tryd.sizeOf5
  v5 := Tryd.zeroValue5
  t9 := Tryd.underlying9
  a9 := Tryd.isAgg9
  z9 := Tryd.sizeOf9
  v9 := Tryd.zeroValue9
  t46 := Tryd.underlying49
  a46 := Tryd.isAgg49
  z46 := Tryd.sizeOf49
  v46 := Tryd.zeroValue49
  t51 := Tryd.underlying42
  a51 := Tryd.isAgg42
  z51 := Tryd.sizeOf42
  v51 := Tryd.zeroValue42
  t59 := Tryd.underlying33
  a59 := Tryd.isAgg33
  z59 := Tryd.sizeOf33
  v59 := Tryd.zeroValue33
  t146 := Tryd.underlying61
  a146 := Tryd.isAgg61
  z146 := Tryd.sizeOf61
  v146 := Tryd.zeroValue61
  g1 := by kernel_rfl }
open Go.RowKit Go.Lib in
/-- strings.Cut: "Cut slices s around the first instance of sep, returning the text before and after sep. The found result reports whether sep appears in s. If sep does not appear in s, cut returns s, "", false.": IT RETURNS 'Lib.cut s sep'; the world is as it was but for the count of draws. (LAID: no walk: one application.) -/
theorem Tryd.strings_Cut (s sep : ByteArray) (m : Int) (w : World) (hs : s.size < 4294967281) (hm : w.cell? ⟨2, 0, none⟩ = some (.int .i64 m)) :
    Calls Tryd.prog 14 #[.string s, .string sep] w fun e w' => e = .returned (.tuple #[.string ⟨(Lib.cut s.data.toList sep.data.toList).1.toArray⟩, .string ⟨(Lib.cut s.data.toList sep.data.toList).2.1.toArray⟩, .bool (Lib.cut s.data.toList sep.data.toList).2.2]) ∧ ∃ n, w' = w.drewN n := Any.strings_Cut Tryd.lays145 s sep m w hs hm
open Go.RowKit in
theorem Tryd.strings_TrimSpace_any (s : ByteArray) (w : World) (hs : s.size ≤ 9223372036854775807) (htab : Lib.TabIs Tryd.prog w "strings.asciiSpace" .u8 Lib.asciiSpaceTab) (hU8 : Lib.Utf8Tabs 3 4 w) (hWS : Lib.WhiteTab 1 w) :
    Calls Tryd.prog 15 #[.string s] w fun e w' => e = .returned (.string ⟨(Lib.trimSpaceD s.data.toList).toArray⟩) ∧ Below w.heap.size w w' := Any.strings_TrimSpace_any Tryd.lays163 Tryd.Space_Extra_163 s w hs htab hU8 hWS
end Go.Proofs
