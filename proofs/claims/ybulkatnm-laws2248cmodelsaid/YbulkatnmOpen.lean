/-
  The law's slice of structs, read as data: what its cells hold.
-/
import Derived.Test.YbulkatnmLaw
import Derived.ProofKit
import Derived.OpenShut
import Derived.Deep.Slices
import Derived.Deep.Strs
namespace Go.Proofs.Ybulkatnm
open Go.ChangeShapes Go.WideShapes Go.ChangeAt Go.RowKit Go.Deep

theorem cells26 : Yba.prog.cellsOf 26 = 3 := by kernel_rfl
theorem cells22 : Yba.prog.cellsOf 22 = 1 := by kernel_rfl
theorem cells5 : Yba.prog.cellsOf 5 = 1 := by kernel_rfl
theorem cells3 : Yba.prog.cellsOf 3 = 1 := by kernel_rfl

/-- A list out of its elements. -/
theorem list_of {α : Type} {p : Nat → α → Prop} : ∀ n, (∀ i, i < n → ∃ x, p i x) → ∃ L : List α, L.length = n ∧ ∀ i (h : i < L.length), p i L[i]
  | 0, _ => ⟨[], rfl, fun i h => absurd h (by simp)⟩
  | n + 1, h => by
    obtain ⟨L, hl, hL⟩ := list_of n (fun i hi => h i (by omega))
    obtain ⟨x, hx⟩ := h n (by omega)
    refine ⟨L ++ [x], by simp [hl], fun i hi => ?_⟩
    by_cases hlt : i < L.length
    · rw [List.getElem_append_left hlt]; exact hL i hlt
    · have : i = L.length := by simp at hi; omega
      subst this
      rw [List.getElem_append_right (Nat.le_refl _)]
      simp only [Nat.sub_self, List.getElem_cons_zero]
      rw [hl]; exact hx

section
variable {H : Type} {enc : TypeId × Value → H} {W : World} {spare : Nat → Bool} {held : Bool}

theorem open_ents {fuel : Nat} {v : Value} {x : DataW H × List MemPlace} (h : DataW.trod enc Yba.prog W 0 spare held fuel 23 [v] = some x) :
    ∃ a len cap, v = .slice a len cap ∧ len ≤ maxLen ∧ (len = 0 ∨ ∃ b off L, a = some ⟨b, off, none⟩ ∧ Ents W b off len L) := by
  rcases open_slice Yba.underlying23 h with ⟨h0, _⟩ | ⟨a, len, cap, m, n, D, Ps, h0, _, hl, hm, hmm, _, hx⟩
  · obtain rfl : v = .slice none 0 0 := by simpa using h0
    exact ⟨none, 0, 0, rfl, by unfold maxLen; omega, .inl rfl⟩
  · obtain rfl : v = .slice (some a) len cap := by simpa using h0
    refine ⟨some a, len, cap, rfl, by omega, ?_⟩
    by_cases hz : len = 0
    · exact .inl hz
    right
    have hlm : len ≤ m := by rw [hmm]; split <;> omega
    have each : ∀ i, i < len → ∃ e : Pl.Ent, W.cell? (a.add (i * 3)) = some (.int .u64 e.ts) ∧ W.cell? (a.add (i * 3 + 1)) = some (.int .u8 e.st) ∧ W.cell? (a.add (i * 3 + 2)) = some (.int .i64 e.val) ∧ 0 ≤ e.st ∧ e.st ≤ 255 := by
      intro i hi
      obtain ⟨cs', h1, h2⟩ := hx i (by omega)
      rw [cells26] at h1
      obtain ⟨_, hlen, hcell⟩ := World.cells?_some h1
      obtain ⟨y0, y1, y2, k, _, _, g0, g1, g2⟩ := trod_struct3 Yba.underlying26 h2
      match cs', hlen with
      | [v0, v1, v2], _ =>
        simp [cells22, cells5, cells3] at g0 g1 g2
        obtain ⟨t, ht, _, _⟩ := DataW.trod_int Yba.underlying22 g0
        obtain ⟨s, hs, _, ws⟩ := DataW.trod_int Yba.underlying5 g1
        obtain ⟨u, hu, _, _⟩ := DataW.trod_int Yba.underlying3 g2
        have e0 := hcell 0 (by omega)
        have e1 := hcell 1 (by omega)
        have e2 := hcell 2 (by omega)
        rw [add_add] at e0 e1 e2
        simp at ht hs hu
        subst ht hs hu
        exact ⟨⟨t, s, u⟩, by simpa using e0, by simpa using e1, by simpa using e2, bounds_u8 ws⟩
    obtain ⟨L, hL, hall⟩ := list_of len each
    obtain ⟨b, off, spot⟩ := a
    have hspot : spot = none := by
      have := (hall 0 (by omega)).1
      simpa [Addr.add] using World.cell?_spot this
    subst hspot
    have add_at : ∀ j, (⟨b, off, none⟩ : Addr).add j = ⟨b, off + j, none⟩ := fun j => add_plain b off j
    refine ⟨b, off, L, rfl, ⟨hL, ?_, fun j hj => ?_, fun j hj => ?_, fun j hj => ?_, fun e he => ?_⟩⟩
    · have := (hall 0 (by omega)).1
      simp only [Nat.zero_mul] at this
      exact World.block_lt_of_cell? W ⟨b, off, none⟩ this
    · have := (hall j hj).1; rwa [add_at] at this
    · have := (hall j hj).2.1; rw [add_at] at this; rwa [Nat.add_assoc]
    · have := (hall j hj).2.2.1; rw [add_at] at this; rwa [Nat.add_assoc]
    · obtain ⟨j, hj, rfl⟩ := List.getElem_of_mem he
      exact (hall j hj).2.2.2
end
end Go.Proofs.Ybulkatnm
