/-
  DERIVED. GIVEN WITH THE SEED: THE CARDS: each row of YbulkatmyDoorRows.lean that lists a variable, with what it lists TIED to the program's text (the seventh form; the later family's looks); each row that meets fmt, with fmt's text TOLD by the authors' own Lean function (tested against real Go, not proved from fmt's source: count such statements apart). THE CARD IS WHAT COUNTS. Prove the row's statement (the work); the ties are given (YbulkatmyDoorTie.lean); close each card by the builder's one call (the guide's Derived/Test/ToyasCard.lean, 'card_holds'). Laid BY PROGRAM, IN A SANDBOX (cutbox-door.mjs). By AI agents, Wed Nov 11 2026. No macro, syntax, notation, axiom, sorry.
-/
import Derived.Test.YbulkatmyDoorRows
import GoSem.ClaimSeven
namespace Go.Proofs.YbulkatmyDoor
namespace Rows

/-- THE TIED CARD OF 'planwright.LawS2247AAscending'. -/
def lawS2247AAscendingCard : Claim7 := { stood := { row := lawS2247AAscendingRow, standIns := [], harness := (true, "f9f7eb4d8bce19971a3156f1a08f41dd2d574293f8b4f9a52f0a70162e47878d"), looks := false }, kinds := [], alts := [], laidByText := true, laidKinds := [.data], laidTests := true, laidLooks := .later }
def LawS2247AAscendingCardSaid : Prop := Claim7.holds Ybad.pinned (.plain (OpenSpec.ofChange lawS2247AAscendingSpec)) lawS2247AAscendingCard

/-- THE TIED CARD OF 'planwright.LawS2247AStops'. -/
def lawS2247AStopsCard : Claim7 := { stood := { row := lawS2247AStopsRow, standIns := [], harness := (true, "f9f7eb4d8bce19971a3156f1a08f41dd2d574293f8b4f9a52f0a70162e47878d"), looks := false }, kinds := [], alts := [], laidByText := true, laidKinds := [.data], laidTests := true, laidLooks := .later }
def LawS2247AStopsCardSaid : Prop := Claim7.holds Ybad.pinned (.plain (OpenSpec.ofChange lawS2247AStopsSpec)) lawS2247AStopsCard

/-- THE TIED CARD OF 'planwright.LawS2247BMerge'. -/
def lawS2247BMergeCard : Claim7 := { stood := { row := lawS2247BMergeRow, standIns := [], harness := (true, "f9f7eb4d8bce19971a3156f1a08f41dd2d574293f8b4f9a52f0a70162e47878d"), looks := false }, kinds := [], alts := [], laidByText := true, laidKinds := [.data], laidTests := true, laidLooks := .later }
def LawS2247BMergeCardSaid : Prop := Claim7.holds Ybad.pinned (.plain (OpenSpec.ofChange lawS2247BMergeSpec)) lawS2247BMergeCard

/-- THE TIED CARD OF 'planwright.LawS2247BKept'. -/
def lawS2247BKeptCard : Claim7 := { stood := { row := lawS2247BKeptRow, standIns := [], harness := (true, "f9f7eb4d8bce19971a3156f1a08f41dd2d574293f8b4f9a52f0a70162e47878d"), looks := false }, kinds := [], alts := [], laidByText := true, laidKinds := [.data], laidTests := true, laidLooks := .later }
def LawS2247BKeptCardSaid : Prop := Claim7.holds Ybad.pinned (.plain (OpenSpec.ofChange lawS2247BKeptSpec)) lawS2247BKeptCard
end Rows
end Go.Proofs.YbulkatmyDoor
