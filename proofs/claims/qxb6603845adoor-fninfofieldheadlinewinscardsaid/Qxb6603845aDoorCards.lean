/-
  DERIVED. GIVEN WITH THE SEED: THE CARDS: each row of Qxb6603845aDoorRows.lean that lists a variable, with what it lists TIED to the program's text (the seventh form; the later family's looks); each row that meets fmt, with fmt's text TOLD by the authors' own Lean function (tested against real Go, not proved from fmt's source: count such statements apart). THE CARD IS WHAT COUNTS. Prove the row's statement (the work); the ties are given (Qxb6603845aDoorTie.lean); close each card by the builder's one call (the guide's Derived/Test/ToyasCard.lean, 'card_holds'). Laid BY PROGRAM, IN A SANDBOX (cutbox-door.mjs). By AI agents, Wed Nov 11 2026. No macro, syntax, notation, axiom, sorry.
-/
import Derived.Test.Qxb6603845aDoorRows
import GoSem.ClaimSeven
namespace Go.Proofs.Qxb6603845aDoor
namespace Rows

/-- THE TIED CARD OF 'zzlaws_internal_redistest_b1.FnInfoFieldHeadLineWins'. -/
def fnInfoFieldHeadLineWinsCard : Claim7 := { stood := { row := fnInfoFieldHeadLineWinsRow, standIns := [], harness := (true, "28b5ab3dc03f772dadf071bd689a7d72b4e74bb9c22594752fec252fb4f2738a"), looks := false }, kinds := [], alts := [], laidByText := true, laidKinds := [.data, .listed, .data, .pinned], laidTests := true, laidLooks := .later }
def FnInfoFieldHeadLineWinsCardSaid : Prop := Claim7.holds Tryd.pinned (.plain (OpenSpec.ofChange fnInfoFieldHeadLineWinsSpec)) fnInfoFieldHeadLineWinsCard
end Rows
end Go.Proofs.Qxb6603845aDoor
