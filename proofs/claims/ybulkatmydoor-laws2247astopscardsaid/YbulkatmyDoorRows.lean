/-
  NARROWER THAN 'FOR EVERY INPUT', by the rows' own cells (each row's printed sentence says how): LawS2247AAscending: laid · LawS2247AStops: laid · LawS2247BMerge: laid · LawS2247BKept: laid.
  DERIVED. THE GIVEN ROWS OF THIS SEAT. 4 by the template 'for every input the law returns true; each argument reads behind the call as it read before'; 0 by the template 'total and deterministic' (their statements: YbulkatmyDoorTotals.lean).
  GIVEN WITH THE SEED: the statements are not yours to turn. If you find one false, say at which input.
  Laid BY PROGRAM, IN A SANDBOX (cutbox-rows.mjs): the forced cells as the released guide's own fill.sh prints them over the translation 7c6a841be7292156… (all of the seat's roots in one cut). By AI agents, Wed Nov 11 2026. No macro, syntax, notation, axiom, sorry.
-/
import Derived.Test.YbulkatmyDoorChecked
import GoSem.Claim
import GoSem.ClaimJoined
import GoSem.ClaimMapViews
import Derived.JoinedTies
import Derived.KernelRfl
namespace Go.Proofs.YbulkatmyDoor
/- THE CELL 'sum', in the pinned program and in every row, IS THE sha256 OF THE DUMP (.gsa) THAT YbulkatmyDoorProg.lean LOADS. Nothing in Lean hashes anything: it is a label: what it is worth is what the hold of that sum in a sandbox is worth. -/
noncomputable def Ybad.pinned : Pinned := { name := "ybulkatmydoor", sum := "7c6a841be729215631b498847193bd0e5224ba9b53c8c6abc4aae7fd4c600a43", checked := Ybad.checked }
namespace Rows
def none {H : Type} : Left H := { results := [], args := [] }

/- WHAT THE LISTED PACKAGE-LEVEL VARIABLES READ AS WHEN THE CALL BEGINS. Each datum BY PROGRAM (the guide's laid-datum.mjs) off the statement by which the dump's own 'gosem.cut.vars' lays the variable. In a bare row this is a premise. The card (YbulkatmyDoorCards.lean) ties it to the program's text. -/
def laid_math_bits_deBruijn64tab {H : Type} : DataW H := .agg [.lit (.int .u8 0), .lit (.int .u8 1), .lit (.int .u8 56), .lit (.int .u8 2), .lit (.int .u8 57), .lit (.int .u8 49), .lit (.int .u8 28), .lit (.int .u8 3), .lit (.int .u8 61), .lit (.int .u8 58), .lit (.int .u8 42), .lit (.int .u8 50), .lit (.int .u8 38), .lit (.int .u8 29), .lit (.int .u8 17), .lit (.int .u8 4), .lit (.int .u8 62), .lit (.int .u8 47), .lit (.int .u8 59), .lit (.int .u8 36), .lit (.int .u8 45), .lit (.int .u8 43), .lit (.int .u8 51), .lit (.int .u8 22), .lit (.int .u8 53), .lit (.int .u8 39), .lit (.int .u8 33), .lit (.int .u8 30), .lit (.int .u8 24), .lit (.int .u8 18), .lit (.int .u8 12), .lit (.int .u8 5), .lit (.int .u8 63), .lit (.int .u8 55), .lit (.int .u8 48), .lit (.int .u8 27), .lit (.int .u8 60), .lit (.int .u8 41), .lit (.int .u8 37), .lit (.int .u8 16), .lit (.int .u8 46), .lit (.int .u8 35), .lit (.int .u8 44), .lit (.int .u8 21), .lit (.int .u8 52), .lit (.int .u8 32), .lit (.int .u8 23), .lit (.int .u8 11), .lit (.int .u8 54), .lit (.int .u8 26), .lit (.int .u8 40), .lit (.int .u8 15), .lit (.int .u8 34), .lit (.int .u8 20), .lit (.int .u8 31), .lit (.int .u8 10), .lit (.int .u8 25), .lit (.int .u8 14), .lit (.int .u8 19), .lit (.int .u8 9), .lit (.int .u8 13), .lit (.int .u8 8), .lit (.int .u8 7), .lit (.int .u8 6)]

/-- 'planwright.LawS2247AAscending': WHATEVER THE INPUT: true; the input reads as it did. -/
def lawS2247AAscendingSpec : ChangeSpec := { name := "lawS2247AAscending", fn := fun _ => fun
  | [d1, d2] => { results := [.lit (.bool true)], args := [d1, d2] }
  | _ => none }
def lawS2247AAscendingRow : OpenClaim := { program := "ybulkatmydoor", sum := "7c6a841be729215631b498847193bd0e5224ba9b53c8c6abc4aae7fd4c600a43", func := "example.com/planwright/planwright.LawS2247AAscending", spec := "lawS2247AAscending", unfollowed := true, recurses := true, named := ["math/bits.deBruijn64tab"], plainKeys := false, apart := false, laid := [("math/bits.deBruijn64tab", laid_math_bits_deBruijn64tab)] }
def LawS2247AAscendingSaid : Prop := lawS2247AAscendingRow.holds Ybad.pinned (OpenSpec.ofChange lawS2247AAscendingSpec)

/-- ITS FALSE NEIGHBOUR: 'it returns false'. Refute it at one input. -/
def lawS2247AAscendingWrong : ChangeSpec := { name := "lawS2247AAscending", fn := fun _ => fun
  | [d1, d2] => { results := [.lit (.bool false)], args := [d1, d2] }
  | _ => none }
def LawS2247AAscendingWrongFalsely : Prop := lawS2247AAscendingRow.holds Ybad.pinned (OpenSpec.ofChange lawS2247AAscendingWrong)

/-- 'planwright.LawS2247AStops': WHATEVER THE INPUT: true; the input reads as it did. -/
def lawS2247AStopsSpec : ChangeSpec := { name := "lawS2247AStops", fn := fun _ => fun
  | [d1, d2, d3] => { results := [.lit (.bool true)], args := [d1, d2, d3] }
  | _ => none }
def lawS2247AStopsRow : OpenClaim := { program := "ybulkatmydoor", sum := "7c6a841be729215631b498847193bd0e5224ba9b53c8c6abc4aae7fd4c600a43", func := "example.com/planwright/planwright.LawS2247AStops", spec := "lawS2247AStops", unfollowed := true, recurses := true, named := ["math/bits.deBruijn64tab"], plainKeys := false, apart := false, laid := [("math/bits.deBruijn64tab", laid_math_bits_deBruijn64tab)] }
def LawS2247AStopsSaid : Prop := lawS2247AStopsRow.holds Ybad.pinned (OpenSpec.ofChange lawS2247AStopsSpec)

/-- ITS FALSE NEIGHBOUR: 'it returns false'. Refute it at one input. -/
def lawS2247AStopsWrong : ChangeSpec := { name := "lawS2247AStops", fn := fun _ => fun
  | [d1, d2, d3] => { results := [.lit (.bool false)], args := [d1, d2, d3] }
  | _ => none }
def LawS2247AStopsWrongFalsely : Prop := lawS2247AStopsRow.holds Ybad.pinned (OpenSpec.ofChange lawS2247AStopsWrong)

/-- 'planwright.LawS2247BMerge': WHATEVER THE INPUT: true; the input reads as it did. -/
def lawS2247BMergeSpec : ChangeSpec := { name := "lawS2247BMerge", fn := fun _ => fun
  | [d1, d2] => { results := [.lit (.bool true)], args := [d1, d2] }
  | _ => none }
def lawS2247BMergeRow : OpenClaim := { program := "ybulkatmydoor", sum := "7c6a841be729215631b498847193bd0e5224ba9b53c8c6abc4aae7fd4c600a43", func := "example.com/planwright/planwright.LawS2247BMerge", spec := "lawS2247BMerge", inPlace := ["math.Float64bits", "math.Float64frombits", "math.archLog"], named := ["math/bits.deBruijn64tab"], plainKeys := false, apart := false, laid := [("math/bits.deBruijn64tab", laid_math_bits_deBruijn64tab)] }
def LawS2247BMergeSaid : Prop := lawS2247BMergeRow.holds Ybad.pinned (OpenSpec.ofChange lawS2247BMergeSpec)

/-- ITS FALSE NEIGHBOUR: 'it returns false'. Refute it at one input. -/
def lawS2247BMergeWrong : ChangeSpec := { name := "lawS2247BMerge", fn := fun _ => fun
  | [d1, d2] => { results := [.lit (.bool false)], args := [d1, d2] }
  | _ => none }
def LawS2247BMergeWrongFalsely : Prop := lawS2247BMergeRow.holds Ybad.pinned (OpenSpec.ofChange lawS2247BMergeWrong)

/-- 'planwright.LawS2247BKept': WHATEVER THE INPUT: true; the input reads as it did. -/
def lawS2247BKeptSpec : ChangeSpec := { name := "lawS2247BKept", fn := fun _ => fun
  | [d1, d2] => { results := [.lit (.bool true)], args := [d1, d2] }
  | _ => none }
def lawS2247BKeptRow : OpenClaim := { program := "ybulkatmydoor", sum := "7c6a841be729215631b498847193bd0e5224ba9b53c8c6abc4aae7fd4c600a43", func := "example.com/planwright/planwright.LawS2247BKept", spec := "lawS2247BKept", inPlace := ["math.Float64bits", "math.Float64frombits", "math.archLog"], named := ["math/bits.deBruijn64tab"], plainKeys := false, apart := false, laid := [("math/bits.deBruijn64tab", laid_math_bits_deBruijn64tab)] }
def LawS2247BKeptSaid : Prop := lawS2247BKeptRow.holds Ybad.pinned (OpenSpec.ofChange lawS2247BKeptSpec)

/-- ITS FALSE NEIGHBOUR: 'it returns false'. Refute it at one input. -/
def lawS2247BKeptWrong : ChangeSpec := { name := "lawS2247BKept", fn := fun _ => fun
  | [d1, d2] => { results := [.lit (.bool false)], args := [d1, d2] }
  | _ => none }
def LawS2247BKeptWrongFalsely : Prop := lawS2247BKeptRow.holds Ybad.pinned (OpenSpec.ofChange lawS2247BKeptWrong)

end Rows
end Go.Proofs.YbulkatmyDoor
