/-
  DERIVED. GIVEN WITH THE SEED: THE CARDS: each row of YbulkatqsDoorRows.lean that lists a variable, with what it lists TIED to the program's text (the seventh form; the later family's looks); each row that meets fmt, with fmt's text TOLD by the authors' own Lean function (tested against real Go, not proved from fmt's source: count such statements apart). THE CARD IS WHAT COUNTS. Prove the row's statement (the work); the ties are given (YbulkatqsDoorTie.lean); close each card by the builder's one call (the guide's Derived/Test/ToyasCard.lean, 'card_holds'). Laid BY PROGRAM, IN A SANDBOX (cutbox-door.mjs). By AI agents, Wed Nov 11 2026. No macro, syntax, notation, axiom, sorry.
-/
import Derived.Test.YbulkatqsDoorRows
import GoSem.ClaimSeven
namespace Go.Proofs.YbulkatqsDoor
namespace Rows

/-- THE TIED CARD OF 'git.LawS2254BTable'. -/
def lawS2254BTableCard : Claim7 := { stood := { row := lawS2254BTableRow, standIns := [], harness := (true, "6eb9961b0faccc834727aaea200e882abae748f979ad0a3a76cccbf0e08feb7b"), looks := false }, kinds := [], alts := [], laidByText := true, laidKinds := [.mapped], laidTests := true, laidLooks := .later }
def LawS2254BTableCardSaid : Prop := Claim7.holds Ybad.pinned (.plain (OpenSpec.ofChange lawS2254BTableSpec)) lawS2254BTableCard

/-- THE TIED CARD OF 'git.LawS2254BInverse'. -/
def lawS2254BInverseCard : Claim7 := { stood := { row := lawS2254BInverseRow, standIns := [], harness := (true, "6eb9961b0faccc834727aaea200e882abae748f979ad0a3a76cccbf0e08feb7b"), looks := false }, kinds := [], alts := [], laidByText := true, laidKinds := [.mapped], laidTests := true, laidLooks := .later }
def LawS2254BInverseCardSaid : Prop := Claim7.holds Ybad.pinned (.plain (OpenSpec.ofChange lawS2254BInverseSpec)) lawS2254BInverseCard
end Rows
end Go.Proofs.YbulkatqsDoor
