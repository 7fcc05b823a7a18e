/-
  NARROWER THAN 'FOR EVERY INPUT', by the rows' own cells (each row's printed sentence says how): LawS2254BTable: maps, laid · LawS2254BInverse: maps, laid.
  DERIVED. THE GIVEN ROWS OF THIS SEAT. 2 by the template 'for every input the law returns true; each argument reads behind the call as it read before'; 0 by the template 'total and deterministic' (their statements: YbulkatqsDoorTotals.lean).
  GIVEN WITH THE SEED: the statements are not yours to turn. If you find one false, say at which input.
  Laid BY PROGRAM, IN A SANDBOX (cutbox-rows.mjs): the forced cells as the released guide's own fill.sh prints them over the translation 82fdb6b66497a02c… (all of the seat's roots in one cut). By AI agents, Wed Nov 11 2026. No macro, syntax, notation, axiom, sorry.
-/
import Derived.Test.YbulkatqsDoorChecked
import GoSem.Claim
import GoSem.ClaimJoined
import GoSem.ClaimMapViews
import Derived.JoinedTies
import Derived.KernelRfl
namespace Go.Proofs.YbulkatqsDoor
/- THE CELL 'sum', in the pinned program and in every row, IS THE sha256 OF THE DUMP (.gsa) THAT YbulkatqsDoorProg.lean LOADS. Nothing in Lean hashes anything: it is a label: what it is worth is what the hold of that sum in a sandbox is worth. -/
noncomputable def Ybad.pinned : Pinned := { name := "ybulkatqsdoor", sum := "82fdb6b66497a02cb428de5fb9c3d94ac1381b19f6efc6255ba0be2a4b9788b2", checked := Ybad.checked }
namespace Rows
def none {H : Type} : Left H := { results := [], args := [] }

/- WHAT THE LISTED PACKAGE-LEVEL VARIABLES READ AS WHEN THE CALL BEGINS. Each datum BY PROGRAM (the guide's laid-datum.mjs) off the statement by which the dump's own 'gosem.cut.vars' lays the variable. In a bare row this is a premise. The card (YbulkatqsDoorCards.lean) ties it to the program's text. -/
def laid_example_com_hollowtree_hollowtree_internal_git_entryTypes {H : Type} : DataW H := .map [(.int .i64 1, .lit (.string [99, 111, 109, 109, 105, 116])), (.int .i64 2, .lit (.string [116, 114, 101, 101])), (.int .i64 3, .lit (.string [98, 108, 111, 98])), (.int .i64 4, .lit (.string [116, 97, 103]))]

/-- 'git.LawS2254BTable': WHATEVER THE INPUT: true; the input reads as it did. -/
def lawS2254BTableSpec : ChangeSpec := { name := "lawS2254BTable", vars := ["example.com/hollowtree/hollowtree/internal/git.entryTypes"], fn := fun _ => fun
  | [d, g1] => { results := [.lit (.bool true)], args := [d], vars := [g1] }
  | _ => none }
def lawS2254BTableRow : OpenClaim := { program := "ybulkatqsdoor", sum := "82fdb6b66497a02cb428de5fb9c3d94ac1381b19f6efc6255ba0be2a4b9788b2", func := "example.com/hollowtree/hollowtree/internal/git.LawS2254BTable", spec := "lawS2254BTable", named := ["example.com/hollowtree/hollowtree/internal/git.entryTypes"], maps := true, apart := false, laid := [("example.com/hollowtree/hollowtree/internal/git.entryTypes", laid_example_com_hollowtree_hollowtree_internal_git_entryTypes)] }
def LawS2254BTableSaid : Prop := lawS2254BTableRow.holds Ybad.pinned (OpenSpec.ofChange lawS2254BTableSpec)

/-- ITS FALSE NEIGHBOUR: 'it returns false'. Refute it at one input. -/
def lawS2254BTableWrong : ChangeSpec := { name := "lawS2254BTable", vars := ["example.com/hollowtree/hollowtree/internal/git.entryTypes"], fn := fun _ => fun
  | [d, g1] => { results := [.lit (.bool false)], args := [d], vars := [g1] }
  | _ => none }
def LawS2254BTableWrongFalsely : Prop := lawS2254BTableRow.holds Ybad.pinned (OpenSpec.ofChange lawS2254BTableWrong)

/-- 'git.LawS2254BInverse': WHATEVER THE INPUT: true; the input reads as it did. -/
def lawS2254BInverseSpec : ChangeSpec := { name := "lawS2254BInverse", vars := ["example.com/hollowtree/hollowtree/internal/git.entryTypes"], fn := fun _ => fun
  | [d, g1] => { results := [.lit (.bool true)], args := [d], vars := [g1] }
  | _ => none }
def lawS2254BInverseRow : OpenClaim := { program := "ybulkatqsdoor", sum := "82fdb6b66497a02cb428de5fb9c3d94ac1381b19f6efc6255ba0be2a4b9788b2", func := "example.com/hollowtree/hollowtree/internal/git.LawS2254BInverse", spec := "lawS2254BInverse", named := ["example.com/hollowtree/hollowtree/internal/git.entryTypes"], maps := true, apart := false, laid := [("example.com/hollowtree/hollowtree/internal/git.entryTypes", laid_example_com_hollowtree_hollowtree_internal_git_entryTypes)] }
def LawS2254BInverseSaid : Prop := lawS2254BInverseRow.holds Ybad.pinned (OpenSpec.ofChange lawS2254BInverseSpec)

/-- ITS FALSE NEIGHBOUR: 'it returns false'. Refute it at one input. -/
def lawS2254BInverseWrong : ChangeSpec := { name := "lawS2254BInverse", vars := ["example.com/hollowtree/hollowtree/internal/git.entryTypes"], fn := fun _ => fun
  | [d, g1] => { results := [.lit (.bool false)], args := [d], vars := [g1] }
  | _ => none }
def LawS2254BInverseWrongFalsely : Prop := lawS2254BInverseRow.holds Ybad.pinned (OpenSpec.ofChange lawS2254BInverseWrong)

end Rows
end Go.Proofs.YbulkatqsDoor
