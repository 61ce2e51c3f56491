/-
  DERIVED: THE SHELF's CONTRACTS AT THIS DUMP, IN PLAIN WORDS (tools/lay-plain.mjs out of 'Qxb6603916aDoorShelf.lean', which tools/lay-shelf.mjs wrote): THE SAME DECLARATIONS UNDER THE SAME NAMES: 'import', 'namespace', 'open', 'def', 'theorem' AND NOTHING ELSE: no command of the shelf's: FOR A HAND-IN. Each laying: the table of numbers ('.._ren') and one theorem, a field a fact of the dump's own or the kernel's comparison; each contract: ONE APPLICATION.
-/
import Derived.Shelf.Strings.Trim
import Derived.Shelf.Strings.Prefix
import Derived.Test.Qxb6603916aDoorProg
namespace Go.Proofs
open Go.Shelf
def Tryd.lays161_ren : Go.Shelf.Ren := ⟨fun | 161 => 15 | 231 => 17 | 227 => 18 | 233 => 19 | 235 => 20 | 228 => 21 | 197 => 22 | 151 => 23 | 260 => 24 | 152 => 25 | 137 => 26 | 119 => 27 | 224 => 28 | 225 => 29 | 217 => 30 | 266 => 31 | n => n, fun | 9 => 9 | 4 => 4 | 3 => 3 | 5 => 5 | 117 => 36 | 116 => 35 | 0 => 0 | 124 => 39 | 105 => 40 | 21 => 21 | 119 => 44 | 46 => 45 | 139 => 48 | 138 => 47 | n => n, fun | 3 => 0 | 4 => 1 | n => n⟩
theorem Tryd.lays161 : Go.Proofs.Lays.n161 Tryd.prog Tryd.lays161_ren := {
  mixed := by kernel_rfl
  f119 := Tryd.func27.trans (congrArg some (by kernel_rfl))
  f137 := Tryd.func26.trans (congrArg some (by kernel_rfl))
  f151 := Tryd.func23.trans (congrArg some (by kernel_rfl))
  f152 := Tryd.func25.trans (congrArg some (by kernel_rfl))
  f161 := Tryd.func15.trans (congrArg some (by kernel_rfl))
  f197 := Tryd.func22.trans (congrArg some (by kernel_rfl))
  f217 := Tryd.func30.trans (congrArg some (by kernel_rfl))
  f224 := Tryd.func28.trans (congrArg some (by kernel_rfl))
  f225 := Tryd.func29.trans (congrArg some (by kernel_rfl))
  f227 := Tryd.func18.trans (congrArg some (by kernel_rfl))
  f228 := Tryd.func21.trans (congrArg some (by kernel_rfl))
  f231 := Tryd.func17.trans (congrArg some (by kernel_rfl))
  f233 := Tryd.func19.trans (congrArg some (by kernel_rfl))
  f235 := Tryd.func20.trans (congrArg some (by kernel_rfl))
  f260 := Tryd.func24.trans (congrArg some (by kernel_rfl))
  f266 := Tryd.func31.trans (congrArg some (by kernel_rfl))
  t0 := Tryd.underlying0
  a0 := Tryd.isAgg0
  z0 := Tryd.sizeOf0
  v0 := Tryd.zeroValue0
  t3 := Tryd.underlying3
  a3 := Tryd.isAgg3
  z3 := Tryd.sizeOf3
  v3 := Tryd.zeroValue3
  t4 := Tryd.underlying4
  a4 := Tryd.isAgg4
  z4 := Tryd.sizeOf4
  v4 := Tryd.zeroValue4
  t5 := Tryd.underlying5
  a5 := Tryd.isAgg5
  z5 := Tryd.sizeOf5
  v5 := Tryd.zeroValue5
  t9 := Tryd.underlying9
  a9 := Tryd.isAgg9
  z9 := Tryd.sizeOf9
  v9 := Tryd.zeroValue9
  t21 := Tryd.underlying21
  a21 := Tryd.isAgg21
  z21 := Tryd.sizeOf21
  v21 := Tryd.zeroValue21
  t46 := Tryd.underlying45
  a46 := Tryd.isAgg45
  z46 := Tryd.sizeOf45
  v46 := Tryd.zeroValue45
  t105 := Tryd.underlying40
  a105 := Tryd.isAgg40
  z105 := Tryd.sizeOf40
  v105 := Tryd.zeroValue40
  t116 := Tryd.underlying35
  a116 := Tryd.isAgg35
  z116 := Tryd.sizeOf35
  t117 := Tryd.underlying36
  a117 := Tryd.isAgg36
  z117 := Tryd.sizeOf36
  v117 := Tryd.zeroValue36
  t119 := Tryd.underlying44
  a119 := Tryd.isAgg44
  z119 := Tryd.sizeOf44
  t124 := Tryd.underlying39
  a124 := Tryd.isAgg39
  z124 := Tryd.sizeOf39
  v124 := Tryd.zeroValue39
  t138 := Tryd.underlying47
  a138 := Tryd.isAgg47
  z138 := Tryd.sizeOf47
  v138 := Tryd.zeroValue47
  t139 := Tryd.underlying48
  a139 := Tryd.isAgg48
  z139 := Tryd.sizeOf48
  v139 := Tryd.zeroValue48
  g3 := by kernel_rfl
  g4 := by kernel_rfl }
open Go.RowKit in
/-- strings.TrimLeft: "TrimLeft returns a slice of the string s with all leading Unicode code points contained in cutset removed.": AT A cutset OF ONE ASCII BYTE. The world is as it was. (LAID: no walk: one application.) -/
theorem Tryd.strings_TrimLeft_one (s : ByteArray) (c : UInt8) (hc : c.toNat < 128) (w : World) :
    Calls Tryd.prog 15 #[.string s, .string ⟨#[c]⟩] w fun e w' => e = .returned (.string ⟨(Lib.trimLeftB s.data.toList c).toArray⟩) ∧ w' = w := Any.strings_TrimLeft_one Tryd.lays161 s c hc w
def Tryd.lays99_ren : Go.Shelf.Ren := ⟨fun | 99 => 13 | 206 => 16 | n => n, fun | 9 => 9 | 4 => 4 | 3 => 3 | n => n, fun | n => n⟩
theorem Tryd.lays99 : Go.Proofs.Lays.n99 Tryd.prog Tryd.lays99_ren := {
  mixed := by kernel_rfl
  f99 := Tryd.func13.trans (congrArg some (by kernel_rfl))
  f206 := Tryd.func16.trans (congrArg some (by kernel_rfl))
  t3 := Tryd.underlying3
  a3 := Tryd.isAgg3
  z3 := Tryd.sizeOf3
  v3 := Tryd.zeroValue3
  t4 := Tryd.underlying4
  a4 := Tryd.isAgg4
  z4 := Tryd.sizeOf4
  v4 := Tryd.zeroValue4
  t9 := Tryd.underlying9
  a9 := Tryd.isAgg9
  z9 := Tryd.sizeOf9
  v9 := Tryd.zeroValue9 }
open Go.RowKit Go.Lib in
/-- strings.HasPrefix: "HasPrefix reports whether the string s begins with prefix.": IT RETURNS 'Lib.hasPrefix s prefix'; the world is as it was. (LAID: no walk: one application.) -/
theorem Tryd.strings_HasPrefix (s p : ByteArray) (w : World) :
    Calls Tryd.prog 13 #[.string s, .string p] w fun e w' => e = .returned (.bool (Lib.hasPrefix s.data.toList p.data.toList)) ∧ w' = w := Any.strings_HasPrefix Tryd.lays99 s p w
end Go.Proofs
