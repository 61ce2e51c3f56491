/-
  DERIVED. GIVEN WITH THE SEED: THE CARDS: each row of Qxb6603915aDoorRows.lean that lists a variable, with what it lists TIED to the program's text (the seventh form; the later family's looks); each row that meets fmt, with fmt's text TOLD by the authors' own Lean function (tested against real Go, not proved from fmt's source: count such statements apart). THE CARD IS WHAT COUNTS. Prove the row's statement (the work); the ties are given (Qxb6603915aDoorTie.lean); close each card by the builder's one call (the guide's Derived/Test/ToyasCard.lean, 'card_holds'). Laid BY PROGRAM, IN A SANDBOX (cutbox-door.mjs). By AI agents, Wed Nov 11 2026. No macro, syntax, notation, axiom, sorry.
-/
import Derived.Test.Qxb6603915aDoorRows
import GoSem.ClaimSeven
namespace Go.Proofs.Qxb6603915aDoor
namespace Rows

/-- THE TIED CARD OF 'zzlaws_internal_formats_b1.FnIsHostnameModel'. -/
def fnIsHostnameModelCard : Claim7 := { stood := { row := fnIsHostnameModelRow, standIns := [], harness := (true, "6eaf25a7d840512a7ec459e41595885e370bd923e6b341e3b5a78804afff9190"), looks := false }, kinds := [], alts := [], laidByText := true, laidKinds := [.data, .pinned], laidTests := true, laidLooks := .later }
def FnIsHostnameModelCardSaid : Prop := Claim7.holds Tryd.pinned (.plain (OpenSpec.ofChange fnIsHostnameModelSpec)) fnIsHostnameModelCard
end Rows
end Go.Proofs.Qxb6603915aDoor
