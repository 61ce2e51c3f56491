/-
  NARROWER THAN 'FOR EVERY INPUT', by the rows' own cells (each row's printed sentence says how): FnURNTypeMatchesSeparatorScan: laid · FnURNTypeOfJoinedParts: laid · FnURNRenamedSplicesAtLastSeparator: laid · FnURNRenamedKeepsType: laid · FnURNRenamedLastWins: laid.
  DERIVED. THE GIVEN ROWS OF THIS SEAT. 5 by the template 'for every input the law returns true; each argument reads behind the call as it read before'; 0 by the template 'total and deterministic' (their statements: Qxb6603167aDoorTotals.lean).
  GIVEN WITH THE SEED: the statements are not yours to turn. If you find one false, say at which input.
  Laid BY PROGRAM, IN A SANDBOX (cutbox-rows.mjs): the forced cells as the released guide's own fill.sh prints them over the translation 5e95562803f4b745… (all of the seat's roots in one cut). By AI agents, Wed Nov 11 2026. No macro, syntax, notation, axiom, sorry.
-/
import Derived.Test.Qxb6603167aDoorChecked
import GoSem.PinnedTables
import GoSem.Claim
import GoSem.ClaimJoined
import GoSem.ClaimMapViews
import Derived.JoinedTies
import Derived.KernelRfl
namespace Go.Proofs.Qxb6603167aDoor
/- THE CELL 'sum', in the pinned program and in every row, IS THE sha256 OF THE DUMP (.gsa) THAT Qxb6603167aDoorProg.lean LOADS. Nothing in Lean hashes anything: it is a label: what it is worth is what the hold of that sum in a sandbox is worth. -/
noncomputable def Tryd.pinned : Pinned := { name := "qxb6603167adoor", sum := "5e95562803f4b7456a29798304c7775fe88a4f29cee7a143b9442051c02effa4", checked := Tryd.checked }
namespace Rows
def none {H : Type} : Left H := { results := [], args := [] }

/- WHAT THE LISTED PACKAGE-LEVEL VARIABLES READ AS WHEN THE CALL BEGINS. Each datum BY PROGRAM (the guide's laid-datum.mjs) off the statement by which the dump's own 'gosem.cut.vars' lays the variable. In a bare row this is a premise. The card (Qxb6603167aDoorCards.lean) ties it to the program's text. -/
def laid_unicode_utf8_acceptRanges {H : Type} : DataW H := .agg [.agg [.lit (.int .u8 128), .lit (.int .u8 191)], .agg [.lit (.int .u8 160), .lit (.int .u8 191)], .agg [.lit (.int .u8 128), .lit (.int .u8 159)], .agg [.lit (.int .u8 144), .lit (.int .u8 191)], .agg [.lit (.int .u8 128), .lit (.int .u8 143)], .agg [.lit (.int .u8 0), .lit (.int .u8 0)], .agg [.lit (.int .u8 0), .lit (.int .u8 0)], .agg [.lit (.int .u8 0), .lit (.int .u8 0)], .agg [.lit (.int .u8 0), .lit (.int .u8 0)], .agg [.lit (.int .u8 0), .lit (.int .u8 0)], .agg [.lit (.int .u8 0), .lit (.int .u8 0)], .agg [.lit (.int .u8 0), .lit (.int .u8 0)], .agg [.lit (.int .u8 0), .lit (.int .u8 0)], .agg [.lit (.int .u8 0), .lit (.int .u8 0)], .agg [.lit (.int .u8 0), .lit (.int .u8 0)], .agg [.lit (.int .u8 0), .lit (.int .u8 0)]]
/-- One of Go's own tables, pinned by name: the form's constant. -/
def laid_unicode_utf8_first : DataW Unit := Go.Pinned.utf8First

/-- 'zzlaws_resource_b1.FnURNTypeMatchesSeparatorScan': WHATEVER THE INPUT: true; the input reads as it did. -/
def fnURNTypeMatchesSeparatorScanSpec : ChangeSpec := { name := "fnURNTypeMatchesSeparatorScan", fn := fun _ => fun
  | [d] => { results := [.lit (.bool true)], args := [d] }
  | _ => none }
def fnURNTypeMatchesSeparatorScanRow : OpenClaim := { program := "qxb6603167adoor", sum := "5e95562803f4b7456a29798304c7775fe88a4f29cee7a143b9442051c02effa4", func := "example.com/stepgraph/stepgraph/zzlaws_resource_b1.FnURNTypeMatchesSeparatorScan", spec := "fnURNTypeMatchesSeparatorScan", inPlace := ["internal/bytealg.CountString", "internal/bytealg.IndexByteString", "internal/bytealg.IndexString"], named := ["unicode/utf8.first", "unicode/utf8.acceptRanges", "internal/bytealg.MaxLen"], apart := false, laid := [("unicode/utf8.acceptRanges", laid_unicode_utf8_acceptRanges), ("unicode/utf8.first", laid_unicode_utf8_first)] }
def FnURNTypeMatchesSeparatorScanSaid : Prop := fnURNTypeMatchesSeparatorScanRow.holds Tryd.pinned (OpenSpec.ofChange fnURNTypeMatchesSeparatorScanSpec)

/-- ITS FALSE NEIGHBOUR: 'it returns false'. Refute it at one input. -/
def fnURNTypeMatchesSeparatorScanWrong : ChangeSpec := { name := "fnURNTypeMatchesSeparatorScan", fn := fun _ => fun
  | [d] => { results := [.lit (.bool false)], args := [d] }
  | _ => none }
def FnURNTypeMatchesSeparatorScanWrongFalsely : Prop := fnURNTypeMatchesSeparatorScanRow.holds Tryd.pinned (OpenSpec.ofChange fnURNTypeMatchesSeparatorScanWrong)

/-- 'zzlaws_resource_b1.FnURNTypeOfJoinedParts': WHATEVER THE INPUT: true; the input reads as it did. -/
def fnURNTypeOfJoinedPartsSpec : ChangeSpec := { name := "fnURNTypeOfJoinedParts", fn := fun _ => fun
  | [d1, d2, d3] => { results := [.lit (.bool true)], args := [d1, d2, d3] }
  | _ => none }
def fnURNTypeOfJoinedPartsRow : OpenClaim := { program := "qxb6603167adoor", sum := "5e95562803f4b7456a29798304c7775fe88a4f29cee7a143b9442051c02effa4", func := "example.com/stepgraph/stepgraph/zzlaws_resource_b1.FnURNTypeOfJoinedParts", spec := "fnURNTypeOfJoinedParts", inPlace := ["internal/bytealg.CountString", "internal/bytealg.IndexByteString", "internal/bytealg.IndexString"], named := ["unicode/utf8.first", "unicode/utf8.acceptRanges", "internal/bytealg.MaxLen"], apart := false, laid := [("unicode/utf8.acceptRanges", laid_unicode_utf8_acceptRanges), ("unicode/utf8.first", laid_unicode_utf8_first)] }
def FnURNTypeOfJoinedPartsSaid : Prop := fnURNTypeOfJoinedPartsRow.holds Tryd.pinned (OpenSpec.ofChange fnURNTypeOfJoinedPartsSpec)

/-- ITS FALSE NEIGHBOUR: 'it returns false'. Refute it at one input. -/
def fnURNTypeOfJoinedPartsWrong : ChangeSpec := { name := "fnURNTypeOfJoinedParts", fn := fun _ => fun
  | [d1, d2, d3] => { results := [.lit (.bool false)], args := [d1, d2, d3] }
  | _ => none }
def FnURNTypeOfJoinedPartsWrongFalsely : Prop := fnURNTypeOfJoinedPartsRow.holds Tryd.pinned (OpenSpec.ofChange fnURNTypeOfJoinedPartsWrong)

/-- 'zzlaws_resource_b1.FnURNRenamedSplicesAtLastSeparator': WHATEVER THE INPUT: true; the input reads as it did. -/
def fnURNRenamedSplicesAtLastSeparatorSpec : ChangeSpec := { name := "fnURNRenamedSplicesAtLastSeparator", fn := fun _ => fun
  | [d1, d2] => { results := [.lit (.bool true)], args := [d1, d2] }
  | _ => none }
def fnURNRenamedSplicesAtLastSeparatorRow : OpenClaim := { program := "qxb6603167adoor", sum := "5e95562803f4b7456a29798304c7775fe88a4f29cee7a143b9442051c02effa4", func := "example.com/stepgraph/stepgraph/zzlaws_resource_b1.FnURNRenamedSplicesAtLastSeparator", spec := "fnURNRenamedSplicesAtLastSeparator", inPlace := ["internal/bytealg.CountString", "internal/bytealg.IndexByteString", "internal/bytealg.IndexString"], named := ["unicode/utf8.first", "unicode/utf8.acceptRanges", "internal/bytealg.MaxLen"], apart := false, laid := [("unicode/utf8.acceptRanges", laid_unicode_utf8_acceptRanges), ("unicode/utf8.first", laid_unicode_utf8_first)] }
def FnURNRenamedSplicesAtLastSeparatorSaid : Prop := fnURNRenamedSplicesAtLastSeparatorRow.holds Tryd.pinned (OpenSpec.ofChange fnURNRenamedSplicesAtLastSeparatorSpec)

/-- ITS FALSE NEIGHBOUR: 'it returns false'. Refute it at one input. -/
def fnURNRenamedSplicesAtLastSeparatorWrong : ChangeSpec := { name := "fnURNRenamedSplicesAtLastSeparator", fn := fun _ => fun
  | [d1, d2] => { results := [.lit (.bool false)], args := [d1, d2] }
  | _ => none }
def FnURNRenamedSplicesAtLastSeparatorWrongFalsely : Prop := fnURNRenamedSplicesAtLastSeparatorRow.holds Tryd.pinned (OpenSpec.ofChange fnURNRenamedSplicesAtLastSeparatorWrong)

/-- 'zzlaws_resource_b1.FnURNRenamedKeepsType': WHATEVER THE INPUT: true; the input reads as it did. -/
def fnURNRenamedKeepsTypeSpec : ChangeSpec := { name := "fnURNRenamedKeepsType", fn := fun _ => fun
  | [d1, d2] => { results := [.lit (.bool true)], args := [d1, d2] }
  | _ => none }
def fnURNRenamedKeepsTypeRow : OpenClaim := { program := "qxb6603167adoor", sum := "5e95562803f4b7456a29798304c7775fe88a4f29cee7a143b9442051c02effa4", func := "example.com/stepgraph/stepgraph/zzlaws_resource_b1.FnURNRenamedKeepsType", spec := "fnURNRenamedKeepsType", inPlace := ["internal/bytealg.CountString", "internal/bytealg.IndexByteString", "internal/bytealg.IndexString"], named := ["unicode/utf8.first", "unicode/utf8.acceptRanges", "internal/bytealg.MaxLen"], apart := false, laid := [("unicode/utf8.acceptRanges", laid_unicode_utf8_acceptRanges), ("unicode/utf8.first", laid_unicode_utf8_first)] }
def FnURNRenamedKeepsTypeSaid : Prop := fnURNRenamedKeepsTypeRow.holds Tryd.pinned (OpenSpec.ofChange fnURNRenamedKeepsTypeSpec)

/-- ITS FALSE NEIGHBOUR: 'it returns false'. Refute it at one input. -/
def fnURNRenamedKeepsTypeWrong : ChangeSpec := { name := "fnURNRenamedKeepsType", fn := fun _ => fun
  | [d1, d2] => { results := [.lit (.bool false)], args := [d1, d2] }
  | _ => none }
def FnURNRenamedKeepsTypeWrongFalsely : Prop := fnURNRenamedKeepsTypeRow.holds Tryd.pinned (OpenSpec.ofChange fnURNRenamedKeepsTypeWrong)

/-- 'zzlaws_resource_b1.FnURNRenamedLastWins': WHATEVER THE INPUT: true; the input reads as it did. -/
def fnURNRenamedLastWinsSpec : ChangeSpec := { name := "fnURNRenamedLastWins", fn := fun _ => fun
  | [d1, d2, d3] => { results := [.lit (.bool true)], args := [d1, d2, d3] }
  | _ => none }
def fnURNRenamedLastWinsRow : OpenClaim := { program := "qxb6603167adoor", sum := "5e95562803f4b7456a29798304c7775fe88a4f29cee7a143b9442051c02effa4", func := "example.com/stepgraph/stepgraph/zzlaws_resource_b1.FnURNRenamedLastWins", spec := "fnURNRenamedLastWins", inPlace := ["internal/bytealg.CountString", "internal/bytealg.IndexByteString", "internal/bytealg.IndexString"], named := ["unicode/utf8.first", "unicode/utf8.acceptRanges", "internal/bytealg.MaxLen"], apart := false, laid := [("unicode/utf8.acceptRanges", laid_unicode_utf8_acceptRanges), ("unicode/utf8.first", laid_unicode_utf8_first)] }
def FnURNRenamedLastWinsSaid : Prop := fnURNRenamedLastWinsRow.holds Tryd.pinned (OpenSpec.ofChange fnURNRenamedLastWinsSpec)

/-- ITS FALSE NEIGHBOUR: 'it returns false'. Refute it at one input. -/
def fnURNRenamedLastWinsWrong : ChangeSpec := { name := "fnURNRenamedLastWins", fn := fun _ => fun
  | [d1, d2, d3] => { results := [.lit (.bool false)], args := [d1, d2, d3] }
  | _ => none }
def FnURNRenamedLastWinsWrongFalsely : Prop := fnURNRenamedLastWinsRow.holds Tryd.pinned (OpenSpec.ofChange fnURNRenamedLastWinsWrong)

end Rows
end Go.Proofs.Qxb6603167aDoor
