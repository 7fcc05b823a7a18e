/-
  'got = append(got, i)' in a variable's box; slices.Equal of two slices that own the same numbers.
-/
import Derived.Test.YbulkatmyDoorRange
namespace Go.Proofs.YbulkatmyDoor
open Go.RowKit

/-- Behind an append to the slice in box B (type 25) and the store back: base lies above the box. -/
theorem boxed_append {W w1 : World} {base B : Nat} {v v' : Value} {k m : Nat} {xs ys : List Value} {tmp : Obj}
    (hv : Boxed W B 25 v) (hrow : W.ownsRow base 3 1 v k xs) (hb : base ≤ W.heap.size) (hB : B < base)
    (hown' : w1.ownsRow base 3 1 v' m ys) (hgrow : (W.alloc tmp).grownBy w1 v.ownBlock) :
    Boxed w1 B 25 v ∧ Boxed (w1.setCell ⟨B, 0, none⟩ v') B 25 v' ∧ (w1.setCell ⟨B, 0, none⟩ v').ownsRow base 3 1 v' m ys ∧ KeepsOthers W (w1.setCell ⟨B, 0, none⟩ v') ∧
      (∀ j, j < base → j ≠ B → (w1.setCell ⟨B, 0, none⟩ v').heap[j]? = W.heap[j]?) ∧ Below B W (w1.setCell ⟨B, 0, none⟩ v') := by
  have hv1 : Boxed w1 B 25 v := (hv.alloc tmp).kept hgrow (hv.not_row (by decide) hrow)
  refine ⟨hv1, hv1.set v', hown'.kept (grown_setCell w1 ⟨B, 0, none⟩ v') (.inr (hv1.not_row (by decide) hown').symm), ?_, ?_, ?_⟩
  · refine ((KeepsOthers.alloc W tmp).trans (KeepsOthers.of_grownBy hgrow fun j o ej hj => ?_)).trans (KeepsOthers.setCell _ _ _)
    rcases (hrow.alloc tmp).2 with ⟨rfl, _⟩ | ⟨g, cap, cur, rfl, _, hgb, _⟩
    · simp [Value.ownBlock] at ej
    · obtain rfl : g = j := by simpa [Value.ownBlock] using ej
      rw [hgb] at hj; cases hj; rfl
  · intro j hj hne
    rw [Below.heap_setCell _ _ _ _ hne, hgrow.block j (by simp; omega) (fun e => by have := own_from hrow j e.symm; omega)]
    exact Below.heap_alloc W tmp j (by omega)
  · exact (((Below.refl B W).alloc (by omega) tmp).grown hgrow (by simp; omega) (fun j ej => by have := own_from hrow j ej; omega)).setCell (p := ⟨B, 0, none⟩) (Nat.le_refl _) v'

/-- What a slice of ints owns, cell by cell. -/
theorem own_cells {W : World} {base g n cap : Nat} {zs : List Int} (h : W.ownsRow base 3 1 (.slice (some ⟨g, 0, none⟩) n cap) n (zs.map (Value.int .i64))) :
    ∀ j, j < n → W.cell? ⟨g, j, none⟩ = some (.int .i64 (zs[j]?.getD 0)) := by
  intro j hj
  have hl : zs.length = n := by have := h.1; simpa using this
  have hjz : j < zs.length := by omega
  have := h.cells (g := g) rfl j (.int .i64 zs[j]) (by simp [hjz])
  have ea : (⟨g, 0, none⟩ : Addr).add j = ⟨g, j, none⟩ := by
    by_cases hj0 : j = 0
    · subst hj0; rfl
    · simp [Addr.add, hj0]
  rw [ea] at this
  simpa [hjz] using this

theorem equal_rows {W : World} {b1 b2 : Nat} {v1 v2 : Value} {zs : List Int} (hlen : zs.length ≤ 9223372036854775807)
    (h1 : W.ownsRow b1 3 1 v1 zs.length (zs.map (Value.int .i64))) (h2 : W.ownsRow b2 3 1 v2 zs.length (zs.map (Value.int .i64))) :
    Calls Ybad.prog 8 #[v1, v2] W fun e w' => e = .returned (.bool true) ∧ ∃ nq, w' = W.drewN nq := by
  by_cases h0 : zs.length = 0
  · have f : ∀ {b : Nat} {v : Value}, W.ownsRow b 3 1 v zs.length (zs.map (Value.int .i64)) → ∃ a c, v = .slice a 0 c := by
      intro b v h
      rcases h.2 with ⟨rfl, _⟩ | ⟨g, cap, cur, rfl, _⟩
      · exact ⟨_, _, rfl⟩
      · rw [h0]; exact ⟨_, _, rfl⟩
    obtain ⟨a, c, rfl⟩ := f h1
    obtain ⟨b, d, rfl⟩ := f h2
    refine (equal_none a b c d W).mono ?_
    rintro e w' ⟨rfl, rfl⟩
    exact ⟨rfl, 0, rfl⟩
  · have f : ∀ {b : Nat} {v : Value}, W.ownsRow b 3 1 v zs.length (zs.map (Value.int .i64)) → ∃ g c, v = .slice (some ⟨g, 0, none⟩) zs.length c := by
      intro b v h
      rcases h.2 with ⟨rfl, hz⟩ | ⟨g, cap, cur, rfl, _⟩
      · exact absurd hz h0
      · exact ⟨_, _, rfl⟩
    obtain ⟨a, c, rfl⟩ := f h1
    obtain ⟨b, d, rfl⟩ := f h2
    exact equal_same a b zs.length c d zs hlen W (own_cells h1) (own_cells h2)

end Go.Proofs.YbulkatmyDoor
