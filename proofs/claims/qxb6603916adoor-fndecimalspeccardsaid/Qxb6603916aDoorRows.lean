/-
  NARROWER THAN 'FOR EVERY INPUT', by the rows' own cells (each row's printed sentence says how): FnDecimalSpec: laid · FnDecimalExponentAgreement: laid.
  DERIVED. THE GIVEN ROWS OF THIS SEAT. 2 by the template 'for every input the law returns true; each argument reads behind the call as it read before'; 0 by the template 'total and deterministic' (their statements: Qxb6603916aDoorTotals.lean).
  GIVEN WITH THE SEED: the statements are not yours to turn. If you find one false, say at which input.
  Laid BY PROGRAM, IN A SANDBOX (cutbox-rows.mjs): the forced cells as the released guide's own fill.sh prints them over the translation 9e79ac81ef091d92… (all of the seat's roots in one cut). By AI agents, Wed Nov 11 2026. No macro, syntax, notation, axiom, sorry.
-/
import Derived.Test.Qxb6603916aDoorChecked
import GoSem.PinnedTables
import GoSem.Claim
import GoSem.ClaimJoined
import GoSem.ClaimMapViews
import Derived.JoinedTies
import Derived.KernelRfl
namespace Go.Proofs.Qxb6603916aDoor
/- THE CELL 'sum', in the pinned program and in every row, IS THE sha256 OF THE DUMP (.gsa) THAT Qxb6603916aDoorProg.lean LOADS. Nothing in Lean hashes anything: it is a label: what it is worth is what the hold of that sum in a sandbox is worth. -/
noncomputable def Tryd.pinned : Pinned := { name := "qxb6603916adoor", sum := "9e79ac81ef091d92a3c3a2d7c898959b97f244acb3b2c49f585daff3d4c0c498", checked := Tryd.checked }
namespace Rows
def none {H : Type} : Left H := { results := [], args := [] }

/- WHAT THE LISTED PACKAGE-LEVEL VARIABLES READ AS WHEN THE CALL BEGINS. Each datum BY PROGRAM (the guide's laid-datum.mjs) off the statement by which the dump's own 'gosem.cut.vars' lays the variable. In a bare row this is a premise. The card (Qxb6603916aDoorCards.lean) ties it to the program's text. -/
def laid_unicode_utf8_acceptRanges {H : Type} : DataW H := .agg [.agg [.lit (.int .u8 128), .lit (.int .u8 191)], .agg [.lit (.int .u8 160), .lit (.int .u8 191)], .agg [.lit (.int .u8 128), .lit (.int .u8 159)], .agg [.lit (.int .u8 144), .lit (.int .u8 191)], .agg [.lit (.int .u8 128), .lit (.int .u8 143)], .agg [.lit (.int .u8 0), .lit (.int .u8 0)], .agg [.lit (.int .u8 0), .lit (.int .u8 0)], .agg [.lit (.int .u8 0), .lit (.int .u8 0)], .agg [.lit (.int .u8 0), .lit (.int .u8 0)], .agg [.lit (.int .u8 0), .lit (.int .u8 0)], .agg [.lit (.int .u8 0), .lit (.int .u8 0)], .agg [.lit (.int .u8 0), .lit (.int .u8 0)], .agg [.lit (.int .u8 0), .lit (.int .u8 0)], .agg [.lit (.int .u8 0), .lit (.int .u8 0)], .agg [.lit (.int .u8 0), .lit (.int .u8 0)], .agg [.lit (.int .u8 0), .lit (.int .u8 0)]]
/-- One of Go's own tables, pinned by name: the form's constant. -/
def laid_unicode_utf8_first : DataW Unit := Go.Pinned.utf8First

/-- 'zzlaws_internal_yamldata_b1.FnDecimalSpec': WHATEVER THE INPUT: true; the input reads as it did. -/
def fnDecimalSpecSpec : ChangeSpec := { name := "fnDecimalSpec", fn := fun _ => fun
  | [d] => { results := [.lit (.bool true)], args := [d] }
  | _ => none }
def fnDecimalSpecRow : OpenClaim := { program := "qxb6603916adoor", sum := "9e79ac81ef091d92a3c3a2d7c898959b97f244acb3b2c49f585daff3d4c0c498", func := "example.com/template-to-web/template-to-web/zzlaws_internal_yamldata_b1.FnDecimalSpec", spec := "fnDecimalSpec", inPlace := ["internal/bytealg.IndexByteString", "internal/bytealg.IndexString"], named := ["unicode/utf8.first", "unicode/utf8.acceptRanges", "internal/bytealg.MaxLen"], apart := false, laid := [("unicode/utf8.acceptRanges", laid_unicode_utf8_acceptRanges), ("unicode/utf8.first", laid_unicode_utf8_first)] }
def FnDecimalSpecSaid : Prop := fnDecimalSpecRow.holds Tryd.pinned (OpenSpec.ofChange fnDecimalSpecSpec)

/-- ITS FALSE NEIGHBOUR: 'it returns false'. Refute it at one input. -/
def fnDecimalSpecWrong : ChangeSpec := { name := "fnDecimalSpec", fn := fun _ => fun
  | [d] => { results := [.lit (.bool false)], args := [d] }
  | _ => none }
def FnDecimalSpecWrongFalsely : Prop := fnDecimalSpecRow.holds Tryd.pinned (OpenSpec.ofChange fnDecimalSpecWrong)

/-- 'zzlaws_internal_yamldata_b1.FnDecimalExponentAgreement': WHATEVER THE INPUT: true; the input reads as it did. -/
def fnDecimalExponentAgreementSpec : ChangeSpec := { name := "fnDecimalExponentAgreement", fn := fun _ => fun
  | [d] => { results := [.lit (.bool true)], args := [d] }
  | _ => none }
def fnDecimalExponentAgreementRow : OpenClaim := { program := "qxb6603916adoor", sum := "9e79ac81ef091d92a3c3a2d7c898959b97f244acb3b2c49f585daff3d4c0c498", func := "example.com/template-to-web/template-to-web/zzlaws_internal_yamldata_b1.FnDecimalExponentAgreement", spec := "fnDecimalExponentAgreement", inPlace := ["internal/bytealg.IndexByteString", "internal/bytealg.IndexString"], named := ["unicode/utf8.first", "unicode/utf8.acceptRanges", "internal/bytealg.MaxLen"], apart := false, laid := [("unicode/utf8.acceptRanges", laid_unicode_utf8_acceptRanges), ("unicode/utf8.first", laid_unicode_utf8_first)] }
def FnDecimalExponentAgreementSaid : Prop := fnDecimalExponentAgreementRow.holds Tryd.pinned (OpenSpec.ofChange fnDecimalExponentAgreementSpec)

/-- ITS FALSE NEIGHBOUR: 'it returns false'. Refute it at one input. -/
def fnDecimalExponentAgreementWrong : ChangeSpec := { name := "fnDecimalExponentAgreement", fn := fun _ => fun
  | [d] => { results := [.lit (.bool false)], args := [d] }
  | _ => none }
def FnDecimalExponentAgreementWrongFalsely : Prop := fnDecimalExponentAgreementRow.holds Tryd.pinned (OpenSpec.ofChange fnDecimalExponentAgreementWrong)

end Rows
end Go.Proofs.Qxb6603916aDoor
