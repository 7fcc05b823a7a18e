/-
  LawS2247AAscending: the walk.
-/
import Derived.Test.YbulkatmyDoorGot
namespace Go.Proofs.YbulkatmyDoor
open Go.RowKit

attribute [local go_sem] Oper.semAt_some

/-- What the law's own cells hold when 'pre' has come: the result's cell; got's box. -/
def Inv (w : World) (pre : List Int) (W : World) : Prop :=
  (∃ v, Boxed W (w.heap.size + 1 + 1) 25 v ∧ W.ownsRow (w.heap.size + 4) 3 1 v pre.length (pre.map (Value.int .i64))) ∧ Boxed W w.heap.size 4 (.bool false) ∧ Below w.heap.size w W ∧ w.heap.size + 4 ≤ W.heap.size

/-- The world where the loop begins. -/
def W0 (w : World) (lo hi : Nat) : World :=
  (((w.alloc (.cells #[.bool false] 4)).alloc (.cells #[.int .u64 (lo : Int), .int .u64 (hi : Int)] 24)).alloc (.cells #[.slice none 0 0] 25)).alloc (.cells #[.int .u64 (lo : Int), .int .u64 (hi : Int)] 24)

theorem W0_size (w : World) (lo hi : Nat) : (W0 w lo hi).heap.size = w.heap.size + 4 := by simp [W0]

theorem W0_inv (w : World) (lo hi : Nat) : Inv w [] (W0 w lo hi) ∧ Two (W0 w lo hi) (w.heap.size + 1 + 1 + 1) lo hi := by
  have b1 := Boxed.new w 4 (.bool false)
  have b3 := Boxed.new ((w.alloc (.cells #[.bool false] 4)).alloc (.cells #[.int .u64 (lo : Int), .int .u64 (hi : Int)] 24)) 25 (.slice none 0 0)
  simp only [World.size_alloc] at b3
  refine ⟨⟨⟨_, b3.alloc _, World.ownsRow_nil _ _ _ _⟩, ((b1.alloc _).alloc _).alloc _, ?_, ?_⟩, ?_⟩
  · exact ((((Below.refl _ w).alloc (Nat.le_refl _) _).alloc (by simp) _).alloc (by simp; omega) _).alloc (by simp; omega) _
  · rw [W0_size]; exact Nat.le_refl _
  · have := World.alloc_heap_new (((w.alloc (.cells #[.bool false] 4)).alloc (.cells #[.int .u64 (lo : Int), .int .u64 (hi : Int)] 24)).alloc (.cells #[.slice none 0 0] 25)) (.cells #[.int .u64 (lo : Int), .int .u64 (hi : Int)] 24)
    simp only [World.size_alloc] at this
    exact this

/-- It abides the iterator's own steps and the loop's book-keeping. -/
theorem Inv.abide {w : World} {lo hi : Nat} : ∀ pre A B row, Inv w pre A → A.grownBy B row →
    (∀ r, row = some r → r = w.heap.size + 1 + 1 + 1 ∨ ((W0 w lo hi).heap.size ≤ r ∧ ∃ o : Obj, A.heap[r]? = some o ∧ o.isCells = false)) → Inv w pre B := by
  rintro pre A B row ⟨⟨v, hv, hrow⟩, hr, hb, hs⟩ hg hrw
  rw [W0_size] at hrw
  have ne : ∀ k, k < w.heap.size + 1 + 1 + 1 → some k ≠ row := fun k hk e => by
    rcases hrw k e.symm with h | ⟨h, _⟩ <;> omega
  refine ⟨⟨v, hv.kept hg (ne _ (by omega)), hrow.kept hg ?_⟩, hr.kept hg (ne _ (by omega)), ?_, Nat.le_trans hs hg.size⟩
  · rcases hrow.2 with ⟨rfl, _⟩ | ⟨g, cap, cur, rfl, hgb, hgc, _⟩
    · exact .inl rfl
    · refine .inr fun e => ?_
      simp only [Value.ownBlock] at e
      rcases hrw g e.symm with h | ⟨_, o, ho, hc⟩
      · omega
      · rw [hgc] at ho; cases ho; cases hc
  · exact hb.grown hg (by omega) (fun k e => by rcases hrw k e with h | ⟨h, _⟩ <;> omega)

/-- Behind 'return slices.Equal(got, zzs2247amodel(lo, hi))': true lies in the result's cell. -/
def AfterEq (w : World) (lo hi : Nat) (v : Value) : Exit → Act → World → Prop
  | .normal, a, W' => (∃ v2, a = { tmps := #[.int .u64 (lo : Int), .int .u64 (hi : Int), undef, undef, .pointer (some ⟨w.heap.size, 0, none⟩), .pointer (some ⟨w.heap.size + 1, 0, none⟩), .pointer (some ⟨w.heap.size + 1 + 1, 0, none⟩), undef, .int .u64 (lo : Int), .int .u64 (hi : Int), .agg #[.int .u64 (lo : Int), .int .u64 (hi : Int)], .agg #[.int .u64 (lo : Int), .int .u64 (hi : Int)], .func (.func 19) #[] #[.pointer (some ⟨w.heap.size + 1 + 1 + 1, 0, none⟩)], undef, undef, undef, undef, undef, undef, undef, undef, v, .int .u64 (lo : Int), .int .u64 (hi : Int), v2, .bool true], defers := [{ target := .collected (w.heap.size + 4), args := #[] }] }) ∧
      Boxed W' w.heap.size 4 (.bool true) ∧ Below w.heap.size w W' ∧ W'.heap[w.heap.size + 4]? = some (.deferred (some []))
  | _, _, _ => False

theorem after_eq {w W w2 : World} {nq : Nat} (hr : Boxed W w.heap.size 4 (.bool false)) (hB : Below w.heap.size w W) 
    (hK : W.heap[w.heap.size + 4]? = some (.deferred (some []))) (hb2 : Below W.drew.heap.size W.drew w2) :
    Boxed ((w2.drewN nq).setCell ⟨w.heap.size, 0, none⟩ (.bool true)) w.heap.size 4 (.bool true) ∧ Below w.heap.size w ((w2.drewN nq).setCell ⟨w.heap.size, 0, none⟩ (.bool true)) ∧
      ((w2.drewN nq).setCell ⟨w.heap.size, 0, none⟩ (.bool true)).heap[w.heap.size + 4]? = some (.deferred (some [])) := by
  have hr0 : Boxed w2 w.heap.size 4 (.bool false) := Boxed.kept (W := W.drew) hr (grown_of_below hb2) (by simp)
  have hr2 : Boxed (w2.drewN nq) w.heap.size 4 (.bool false) := hr0
  have hK2 : (w2.drewN nq).heap[w.heap.size + 4]? = some (.deferred (some [])) := (hb2.block _ (Array.getElem?_eq_some_iff.1 hK).1).trans hK
  have hB2 : Below w.heap.size w (w2.drewN nq) := by
    have h1 : Below w.heap.size w w2 := hB.drew.trans (hb2.mono hB.size)
    exact ⟨h1.os, h1.tape, h1.output, h1.size, h1.block⟩
  exact ⟨hr2.set _, hB2.setCell (p := ⟨w.heap.size, 0, none⟩) (Nat.le_refl _) _, (Below.heap_setCell _ _ _ _ (by simp)).trans hK2⟩

set_option maxRecDepth 100000 in
set_option maxHeartbeats 1000000 in
theorem asc_any (lo hi : Nat) (h1 : lo < 18446744073709551616) (h2 : hi < 18446744073709551616) (w : World) (hT : Tab w) :
    Calls Ybad.prog 3 #[.int .u64 (lo : Int), .int .u64 (hi : Int)] w fun e w' => e = .returned (.bool true) ∧ Below w.heap.size w w' := by
  obtain ⟨i0, hi0, hz0, hz1, hz2⟩ := info_parts info3
  refine (callsIn_wide (n := 4)).1 ?_
  refine callsIn_of_wp_marks Ybad.func3 rfl trivial ?_ rfl
  simp only [Ybad.ntmps3, List.size_toArray, List.length_cons, List.length_nil, Nat.reduceAdd, Nat.reduceSub, Array.replicate_succ, Array.replicate_zero, List.push_toArray, List.append_toArray, List.nil_append, List.cons_append]
  gi_wp2_with (refine ⟨trivial, ?_⟩; gi_at_call 7; refine (callsIn_wide.2 (all_any lo hi _)).mono ?_; rintro e w' ⟨rfl, rfl⟩)
  refine range_all (w := W0 w lo hi) (by omega) lo hi (w.heap.size + 1 + 1 + 1) h1 h2 rfl rfl (Inv w) Inv.abide (fun pre A h => hT.below hT.pos h.2.2.1) (W0_inv w lo hi).1 (W0_inv w lo hi).2
    (fun x => { tmps := #[.int .u64 (lo : Int), .int .u64 (hi : Int), undef, undef, .pointer (some ⟨w.heap.size, 0, none⟩), .pointer (some ⟨w.heap.size + 1, 0, none⟩), .pointer (some ⟨w.heap.size + 1 + 1, 0, none⟩), .int .i64 x, .int .u64 (lo : Int), .int .u64 (hi : Int), .agg #[.int .u64 (lo : Int), .int .u64 (hi : Int)], .agg #[.int .u64 (lo : Int), .int .u64 (hi : Int)], .func (.func 19) #[] #[.pointer (some ⟨w.heap.size + 1 + 1 + 1, 0, none⟩)], .int .i64 x, undef, undef, undef, undef, undef, undef, undef, undef, undef, undef, undef, undef], defers := [] }) ?assign ?body ?over
  case assign =>
    intro l x W K hK
    gi_wp2
    exact hK
  case body =>
    rintro l pre x W ⟨⟨v, hv, hrow⟩, hr, hB, hs⟩ hpre
    have hc := hv.cell
    have hpl : pre.length + 1 ≤ 128 := by
      have := hpre.length_le
      have h128 := Pl.upto_len lo hi 128
      simp at this; omega
    gi_wp2_with (gi_at_builtin; refine wpListIn_append_own _ rfl _ _ 25 rfl (w.heap.size + 4) 3 i0 (.int .i64 0) 1 8 Ybad.underlying25 hi0 hz0 hz1 hz2 rfl (by decide) _ _ _ rfl (hrow.alloc _) ⟨W.heap.size, 0, none⟩ 1 1 [.int .i64 x] rfl rfl (cell_one_new _ _ _) (by simp [Value.oneCell']) (by unfold maxLen; omega) (by omega) (by simp; omega) ?_; intro v' w1 hown' hgrow _; obtain ⟨g', cap', rfl⟩ := ownsRow_succ hown'; obtain ⟨hv1, hv2, hr2, hk2, ho2, hb2⟩ := boxed_append hv hrow hs (by omega) hown' hgrow; have hc1 := hv1.cell; have hf1 := hv1.frozen; have hc2 := hv2.cell)
    exact ⟨hk2.from _, ho2 _ (by omega) (by omega), ⟨⟨_, hv2, by simpa using hr2⟩, (ho2 _ (by omega) (by omega)).trans hr, hB.trans (hb2.mono (by omega)), Nat.le_trans hs hk2.size⟩⟩
  case over =>
    rintro W ⟨⟨v, hv, hrow⟩, hr, hB, hs⟩ hK
    have hc := hv.cell
    have hlen : (Pl.upto lo hi 128).length ≤ 9223372036854775807 := by have := Pl.upto_len lo hi 128; omega
    rw [W0_size] at hK ⊢
    gi_wp2_with fail
    refine wpIn_mono (Q := AfterEq w lo hi v) (wpIn_wide.2 ?_) ?_
    rotate_left
    · rintro e a' W' hq
      cases e with
      | normal =>
        obtain ⟨⟨v2, rfl⟩, hr', hB', hK'⟩ := hq
        have hc4 := hr'.cell
        gi_wp2
        refine ⟨by simp, .inl ⟨_, _, rfl, run_takeDeferred hK', ?_⟩⟩
        have hr'' : Boxed (W'.putObj (w.heap.size + 4) (.deferred none)) w.heap.size 4 (.bool true) := (World.putObj_heap_other (by omega)).trans hr'
        have hc'' := hr''.cell
        exact ⟨.bool true, by simp [results, Ybad.results3, go_sem, hc''], rfl, hB'.trans (belowK_b (w := w) (Nat.le_refl _) W' _ _ _ (by omega) hK' rfl rfl)⟩
      | ret => exact hq.elim
      | exit id => exact hq.elim
      | goto t => exact hq.elim
      | panic ch => exact hq.elim
      | outgrown => exact hq.elim
    go_region_with (first
      | (go_at_call 9; refine (model_any lo hi h1 h2 _).mono ?_; rintro e w2 ⟨v2, rfl, hown2, hb2⟩; have hg2 := grown_of_below hb2; have hv2 : Boxed w2 (w.heap.size + 1 + 1) 25 v := Boxed.kept (W := W.drew) hv hg2 (by simp); have hc2 := hv2.cell; have hrow2 : w2.ownsRow (w.heap.size + 4) 3 1 v (Pl.upto lo hi 128).length ((Pl.upto lo hi 128).map (Value.int .i64)) := World.ownsRow.kept (w := W.drew) hrow hg2 (by cases hx : v.ownBlock <;> simp); have hr2 : Boxed w2 w.heap.size 4 (.bool false) := Boxed.kept (W := W.drew) hr hg2 (by simp); have hc4 := hr2.cell; have hf4 := hr2.frozen)
      | (go_at_call 8; refine (equal_rows hlen hrow2 hown2).mono ?_; rintro e w3 ⟨rfl, nq, rfl⟩))
    all_goals exact ⟨⟨v2, rfl⟩, after_eq hr hB hK hb2⟩

end Go.Proofs.YbulkatmyDoor
