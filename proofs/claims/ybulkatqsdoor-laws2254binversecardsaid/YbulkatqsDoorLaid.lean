/-
  FROM THE ROW's CONDITION ON entryTypes TO WHAT THE WALKS ASK ('TabIn'); the door's own heap meets the condition.
-/
import Derived.Test.YbulkatqsDoorWalk
import Derived.ProofKit
import Derived.LaidMore
import Derived.OpenShut
import Derived.Stop.Joined
namespace Go.Proofs.YbulkatqsDoor
open Go.ChangeShapes Go.WideShapes Go.ChangeAt Go.WideMaps Go.WideElems Go.RowKit Go.Maps

theorem own : ownKnob Ybad.prog.godebug = none := by kernel_rfl

/-- The list that the rows bear. -/
def laidL : List (String × DataW Unit) := Rows.lawS2254BTableRow.laid
/-- The table's variable, by the name that the rows list. -/
def tabName : String := (laidL.map (·.1)).headD ""
theorem laidL_eq : laidL = [(tabName, tab)] := rfl
theorem gTab : Ybad.prog.globalNamed tabName = some 0 := by kernel_rfl
theorem tTab : (Ybad.prog.globals[0]?).map (·.type) = some 27 := by kernel_rfl

theorem door_met (os : Os) (args : Array Value) : laidMetH Ybad.prog laidL ((World.doorLaid Ybad.prog 34 os).forCall (fun _ _ => 0) ⟨#[], args, []⟩).memory :=
  laidMetH_of_parts3 (fuel := 8) (laidMet_of_run' 8 (by kernel_rfl) (by kernel_rfl)) (by kernel_rfl) (by kernel_rfl)

/-- WHAT THE CONDITION GIVES THE WALKS: the variable's cell, and the map behind it. -/
theorem tab_of_laid {W : World} (h : laidMetH Ybad.prog laidL W) : ∃ bm n, TabIn W bm n := by
  rw [MakeChecks.laidMetH_plain _ _ _ (by kernel_rfl)] at h
  rw [laidL_eq] at h
  obtain ⟨ps, ⟨g0, t0, cs0, f0, p0, q0, hg0, ht0, hv0, hd0, _, _⟩, _, _⟩ := h
  obtain rfl := Option.some.inj (gTab.symm.trans hg0)
  obtain rfl := Option.some.inj (tTab.symm.trans ht0)
  rcases open_map Ybad.underlying27 hd0 with ⟨_, hx⟩ | ⟨bm, es, clock, m, rfl, hcs, hb, _, F, hx⟩
  · exact absurd (congrArg Prod.fst hx) (by intro e; cases e)
  simp only [Prod.mk.injEq] at hx
  have hcell : W.cell? ⟨0, 0, none⟩ = some (.map (some bm)) := by
    have := World.var?_cell hg0 hv0 0
    rw [Array.eq_one_of_toList hcs] at this
    simpa using this
  have hown := World.ownsMap_of_fit (R := plainElem Ybad.prog 9) hb F (fun x _ z hz => elemAt_plainElem_string Ybad.underlying9 hz)
  rw [← hx.1] at hown
  exact ⟨bm, _, hcell, hown⟩

end Go.Proofs.YbulkatqsDoor
