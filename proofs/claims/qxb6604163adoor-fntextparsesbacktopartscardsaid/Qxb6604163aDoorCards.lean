/-
  DERIVED. GIVEN WITH THE SEED: THE CARDS: each row of Qxb6604163aDoorRows.lean that lists a variable, with what it lists TIED to the program's text (the seventh form; the later family's looks); each row that meets fmt, with fmt's text TOLD by the authors' own Lean function (tested against real Go, not proved from fmt's source: count such statements apart). THE CARD IS WHAT COUNTS. Prove the row's statement (the work); the ties are given (Qxb6604163aDoorTie.lean); close each card by the builder's one call (the guide's Derived/Test/ToyasCard.lean, 'card_holds'). Laid BY PROGRAM, IN A SANDBOX (cutbox-door.mjs). By AI agents, Wed Nov 11 2026. No macro, syntax, notation, axiom, sorry.
-/
import Derived.Test.Qxb6604163aDoorRows
import GoSem.ClaimSeven
namespace Go.Proofs.Qxb6604163aDoor
namespace Rows

/-- THE TIED CARD OF 'zzlaws_internal_label_b1.FnTextParsesBackToParts'. -/
def fnTextParsesBackToPartsCard : Claim7 := { stood := { row := fnTextParsesBackToPartsRow, standIns := [], harness := (true, "0e72e81ac40688393c8e9d14fea62617a3160af8419d981c4cfea68df837360e"), looks := false }, kinds := [], alts := [], laidByText := true, laidKinds := [.data, .data, .data], laidTests := true, laidLooks := .later }
def FnTextParsesBackToPartsCardSaid : Prop := Claim7.holds Tryd.pinned (.plain (OpenSpec.ofChange fnTextParsesBackToPartsSpec)) fnTextParsesBackToPartsCard
end Rows
end Go.Proofs.Qxb6604163aDoor
