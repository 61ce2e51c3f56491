/-
  DERIVED. GIVEN WITH THE SEED: THE CARDS: each row of Qxb6603916aDoorRows.lean that lists a variable, with what it lists TIED to the program's text (the seventh form; the later family's looks); each row that meets fmt, with fmt's text TOLD by the authors' own Lean function (tested against real Go, not proved from fmt's source: count such statements apart). THE CARD IS WHAT COUNTS. Prove the row's statement (the work); the ties are given (Qxb6603916aDoorTie.lean); close each card by the builder's one call (the guide's Derived/Test/ToyasCard.lean, 'card_holds'). Laid BY PROGRAM, IN A SANDBOX (cutbox-door.mjs). By AI agents, Wed Nov 11 2026. No macro, syntax, notation, axiom, sorry.
-/
import Derived.Test.Qxb6603916aDoorRows
import GoSem.ClaimSeven
namespace Go.Proofs.Qxb6603916aDoor
namespace Rows

/-- THE TIED CARD OF 'zzlaws_internal_yamldata_b1.FnDecimalSpec'. -/
def fnDecimalSpecCard : Claim7 := { stood := { row := fnDecimalSpecRow, standIns := [], harness := (true, "009b6d3594acd5883984436dd49abf06a7aec7c9ac1888c4cc2358b5cd155e2a"), looks := false }, kinds := [], alts := [], laidByText := true, laidKinds := [.data, .pinned], laidTests := true, laidLooks := .later }
def FnDecimalSpecCardSaid : Prop := Claim7.holds Tryd.pinned (.plain (OpenSpec.ofChange fnDecimalSpecSpec)) fnDecimalSpecCard

/-- THE TIED CARD OF 'zzlaws_internal_yamldata_b1.FnDecimalExponentAgreement'. -/
def fnDecimalExponentAgreementCard : Claim7 := { stood := { row := fnDecimalExponentAgreementRow, standIns := [], harness := (true, "009b6d3594acd5883984436dd49abf06a7aec7c9ac1888c4cc2358b5cd155e2a"), looks := false }, kinds := [], alts := [], laidByText := true, laidKinds := [.data, .pinned], laidTests := true, laidLooks := .later }
def FnDecimalExponentAgreementCardSaid : Prop := Claim7.holds Tryd.pinned (.plain (OpenSpec.ofChange fnDecimalExponentAgreementSpec)) fnDecimalExponentAgreementCard
end Rows
end Go.Proofs.Qxb6603916aDoor
