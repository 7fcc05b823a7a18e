/-
  No cell of these rows narrows 'for every input' (looked for: loops, veiled, ifaces, maps, wideKeys, modest, calm, conditions, laid).
  DERIVED. THE GIVEN ROWS OF THIS SEAT. 1 by the template 'for every input the law returns true; each argument reads behind the call as it read before'; 0 by the template 'total and deterministic' (their statements: YbulkatnmTotals.lean).
  GIVEN WITH THE SEED: the statements are not yours to turn. If you find one false, say at which input.
  Laid BY PROGRAM, IN A SANDBOX (cutbox-rows.mjs): the forced cells as the released guide's own fill.sh prints them over the translation 019cfa0d1cacf048… (all of the seat's roots in one cut). By AI agents, Wed Nov 11 2026. No macro, syntax, notation, axiom, sorry.
-/
import Derived.Test.YbulkatnmChecked
import GoSem.Claim
import GoSem.ClaimJoined
import GoSem.ClaimMapViews
import Derived.JoinedTies
import Derived.KernelRfl
namespace Go.Proofs.Ybulkatnm
/- THE CELL 'sum', in the pinned program and in every row, IS THE sha256 OF THE DUMP (.gsa) THAT YbulkatnmProg.lean LOADS. Nothing in Lean hashes anything: it is a label: what it is worth is what the hold of that sum in a sandbox is worth. -/
noncomputable def Yba.pinned : Pinned := { name := "ybulkatnm", sum := "019cfa0d1cacf0487ebf1464d0b7519a0473ef3d6541ad94ff7657c32d6de3db", checked := Yba.checked }
namespace Rows
def none {H : Type} : Left H := { results := [], args := [] }

/-- 'tsorder.LawS2248CModel': WHATEVER THE INPUT: true; the input reads as it did. -/
def lawS2248CModelSpec : ChangeSpec := { name := "lawS2248CModel", fn := fun _ => fun
  | [d1, d2, d3, d4, d5, d6, d7] => { results := [.lit (.bool true)], args := [d1, d2, d3, d4, d5, d6, d7] }
  | _ => none }
def lawS2248CModelRow : OpenClaim := { program := "ybulkatnm", sum := "019cfa0d1cacf0487ebf1464d0b7519a0473ef3d6541ad94ff7657c32d6de3db", func := "example.com/stampline/stampline/internal/tsorder.LawS2248CModel", spec := "lawS2248CModel", unfollowed := true, recurses := true, apart := false }
def LawS2248CModelSaid : Prop := lawS2248CModelRow.holds Yba.pinned (OpenSpec.ofChange lawS2248CModelSpec)

/-- ITS FALSE NEIGHBOUR: 'it returns false'. Refute it at one input. -/
def lawS2248CModelWrong : ChangeSpec := { name := "lawS2248CModel", fn := fun _ => fun
  | [d1, d2, d3, d4, d5, d6, d7] => { results := [.lit (.bool false)], args := [d1, d2, d3, d4, d5, d6, d7] }
  | _ => none }
def LawS2248CModelWrongFalsely : Prop := lawS2248CModelRow.holds Yba.pinned (OpenSpec.ofChange lawS2248CModelWrong)

end Rows
end Go.Proofs.Ybulkatnm
