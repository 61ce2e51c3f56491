/-
  DERIVED. GIVEN WITH THE SEED: THE CARDS: each row of Qxb6603167aDoorRows.lean that lists a variable, with what it lists TIED to the program's text (the seventh form; the later family's looks); each row that meets fmt, with fmt's text TOLD by the authors' own Lean function (tested against real Go, not proved from fmt's source: count such statements apart). THE CARD IS WHAT COUNTS. Prove the row's statement (the work); the ties are given (Qxb6603167aDoorTie.lean); close each card by the builder's one call (the guide's Derived/Test/ToyasCard.lean, 'card_holds'). Laid BY PROGRAM, IN A SANDBOX (cutbox-door.mjs). By AI agents, Wed Nov 11 2026. No macro, syntax, notation, axiom, sorry.
-/
import Derived.Test.Qxb6603167aDoorRows
import GoSem.ClaimSeven
namespace Go.Proofs.Qxb6603167aDoor
namespace Rows

/-- THE TIED CARD OF 'zzlaws_resource_b1.FnURNTypeMatchesSeparatorScan'. -/
def fnURNTypeMatchesSeparatorScanCard : Claim7 := { stood := { row := fnURNTypeMatchesSeparatorScanRow, standIns := [], harness := (true, "b9d12ff0736329e43db2c1a2e2f9ab435ec58e9dd2d34261bd1a6570bbbcf7d7"), looks := false }, kinds := [], alts := [], laidByText := true, laidKinds := [.data, .pinned], laidTests := true, laidLooks := .later }
def FnURNTypeMatchesSeparatorScanCardSaid : Prop := Claim7.holds Tryd.pinned (.plain (OpenSpec.ofChange fnURNTypeMatchesSeparatorScanSpec)) fnURNTypeMatchesSeparatorScanCard

/-- THE TIED CARD OF 'zzlaws_resource_b1.FnURNTypeOfJoinedParts'. -/
def fnURNTypeOfJoinedPartsCard : Claim7 := { stood := { row := fnURNTypeOfJoinedPartsRow, standIns := [], harness := (true, "b9d12ff0736329e43db2c1a2e2f9ab435ec58e9dd2d34261bd1a6570bbbcf7d7"), looks := false }, kinds := [], alts := [], laidByText := true, laidKinds := [.data, .pinned], laidTests := true, laidLooks := .later }
def FnURNTypeOfJoinedPartsCardSaid : Prop := Claim7.holds Tryd.pinned (.plain (OpenSpec.ofChange fnURNTypeOfJoinedPartsSpec)) fnURNTypeOfJoinedPartsCard

/-- THE TIED CARD OF 'zzlaws_resource_b1.FnURNRenamedSplicesAtLastSeparator'. -/
def fnURNRenamedSplicesAtLastSeparatorCard : Claim7 := { stood := { row := fnURNRenamedSplicesAtLastSeparatorRow, standIns := [], harness := (true, "b9d12ff0736329e43db2c1a2e2f9ab435ec58e9dd2d34261bd1a6570bbbcf7d7"), looks := false }, kinds := [], alts := [], laidByText := true, laidKinds := [.data, .pinned], laidTests := true, laidLooks := .later }
def FnURNRenamedSplicesAtLastSeparatorCardSaid : Prop := Claim7.holds Tryd.pinned (.plain (OpenSpec.ofChange fnURNRenamedSplicesAtLastSeparatorSpec)) fnURNRenamedSplicesAtLastSeparatorCard

/-- THE TIED CARD OF 'zzlaws_resource_b1.FnURNRenamedKeepsType'. -/
def fnURNRenamedKeepsTypeCard : Claim7 := { stood := { row := fnURNRenamedKeepsTypeRow, standIns := [], harness := (true, "b9d12ff0736329e43db2c1a2e2f9ab435ec58e9dd2d34261bd1a6570bbbcf7d7"), looks := false }, kinds := [], alts := [], laidByText := true, laidKinds := [.data, .pinned], laidTests := true, laidLooks := .later }
def FnURNRenamedKeepsTypeCardSaid : Prop := Claim7.holds Tryd.pinned (.plain (OpenSpec.ofChange fnURNRenamedKeepsTypeSpec)) fnURNRenamedKeepsTypeCard

/-- THE TIED CARD OF 'zzlaws_resource_b1.FnURNRenamedLastWins'. -/
def fnURNRenamedLastWinsCard : Claim7 := { stood := { row := fnURNRenamedLastWinsRow, standIns := [], harness := (true, "b9d12ff0736329e43db2c1a2e2f9ab435ec58e9dd2d34261bd1a6570bbbcf7d7"), looks := false }, kinds := [], alts := [], laidByText := true, laidKinds := [.data, .pinned], laidTests := true, laidLooks := .later }
def FnURNRenamedLastWinsCardSaid : Prop := Claim7.holds Tryd.pinned (.plain (OpenSpec.ofChange fnURNRenamedLastWinsSpec)) fnURNRenamedLastWinsCard
end Rows
end Go.Proofs.Qxb6603167aDoor
