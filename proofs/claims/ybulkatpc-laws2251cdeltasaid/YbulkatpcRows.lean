/-
  No cell of these rows narrows 'for every input' (looked for: loops, veiled, ifaces, maps, wideKeys, modest, calm, conditions, laid).
  DERIVED. THE GIVEN ROWS OF THIS SEAT. 2 by the template 'for every input the law returns true; each argument reads behind the call as it read before'; 0 by the template 'total and deterministic' (their statements: YbulkatpcTotals.lean).
  GIVEN WITH THE SEED: the statements are not yours to turn. If you find one false, say at which input.
  Laid BY PROGRAM, IN A SANDBOX (cutbox-rows.mjs): the forced cells as the released guide's own fill.sh prints them over the translation a10582ea4dd41503… (all of the seat's roots in one cut). By AI agents, Wed Nov 11 2026. No macro, syntax, notation, axiom, sorry.
-/
import Derived.Test.YbulkatpcChecked
import GoSem.Claim
import GoSem.ClaimJoined
import GoSem.ClaimMapViews
import Derived.JoinedTies
import Derived.KernelRfl
namespace Go.Proofs.Ybulkatpc
/- THE CELL 'sum', in the pinned program and in every row, IS THE sha256 OF THE DUMP (.gsa) THAT YbulkatpcProg.lean LOADS. Nothing in Lean hashes anything: it is a label: what it is worth is what the hold of that sum in a sandbox is worth. -/
noncomputable def Yba.pinned : Pinned := { name := "ybulkatpc", sum := "a10582ea4dd4150308898aff4e3c1abc31869ec164f9bd204af39de543ce6de7", checked := Yba.checked }
namespace Rows
def none {H : Type} : Left H := { results := [], args := [] }

/-- 'tideset.LawS2251BCounts': WHATEVER THE INPUT: true; the input reads as it did. -/
def lawS2251BCountsSpec : ChangeSpec := { name := "lawS2251BCounts", fn := fun _ => fun
  | [d] => { results := [.lit (.bool true)], args := [d] }
  | _ => none }
def lawS2251BCountsRow : OpenClaim := { program := "ybulkatpc", sum := "a10582ea4dd4150308898aff4e3c1abc31869ec164f9bd204af39de543ce6de7", func := "example.com/tideset/tideset.LawS2251BCounts", spec := "lawS2251BCounts", inPlace := ["internal/abi.NoEscape", "internal/bytealg.MakeNoZero", "internal/bytealg.abigen_runtime_cmpstring"], unfollowed := true, recurses := true, plainKeys := false, apart := false }
def LawS2251BCountsSaid : Prop := lawS2251BCountsRow.holds Yba.pinned (OpenSpec.ofChange lawS2251BCountsSpec)

/-- ITS FALSE NEIGHBOUR: 'it returns false'. Refute it at one input. -/
def lawS2251BCountsWrong : ChangeSpec := { name := "lawS2251BCounts", fn := fun _ => fun
  | [d] => { results := [.lit (.bool false)], args := [d] }
  | _ => none }
def LawS2251BCountsWrongFalsely : Prop := lawS2251BCountsRow.holds Yba.pinned (OpenSpec.ofChange lawS2251BCountsWrong)

/-- 'tideset.LawS2251CDelta': WHATEVER THE INPUT: true; the input reads as it did. -/
def lawS2251CDeltaSpec : ChangeSpec := { name := "lawS2251CDelta", fn := fun _ => fun
  | [d1, d2, d3] => { results := [.lit (.bool true)], args := [d1, d2, d3] }
  | _ => none }
def lawS2251CDeltaRow : OpenClaim := { program := "ybulkatpc", sum := "a10582ea4dd4150308898aff4e3c1abc31869ec164f9bd204af39de543ce6de7", func := "example.com/tideset/tideset.LawS2251CDelta", spec := "lawS2251CDelta", plainKeys := false, apart := false }
def LawS2251CDeltaSaid : Prop := lawS2251CDeltaRow.holds Yba.pinned (OpenSpec.ofChange lawS2251CDeltaSpec)

/-- ITS FALSE NEIGHBOUR: 'it returns false'. Refute it at one input. -/
def lawS2251CDeltaWrong : ChangeSpec := { name := "lawS2251CDelta", fn := fun _ => fun
  | [d1, d2, d3] => { results := [.lit (.bool false)], args := [d1, d2, d3] }
  | _ => none }
def LawS2251CDeltaWrongFalsely : Prop := lawS2251CDeltaRow.holds Yba.pinned (OpenSpec.ofChange lawS2251CDeltaWrong)

end Rows
end Go.Proofs.Ybulkatpc
