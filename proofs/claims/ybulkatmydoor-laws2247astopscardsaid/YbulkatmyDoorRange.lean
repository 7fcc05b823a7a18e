/-
  'for i := range s.all() { .. }': THE STATEMENT, for a body that never leaves: the iterator writes its own state (block Bs) between two rounds, so the caller's invariant abides that block too.
-/
import Derived.Test.YbulkatmyDoorIter
namespace Go.Proofs.YbulkatmyDoor
open Go.RowKit

/-- What a round's body owes: it goes on; the loop's book-keeping and the iterator's state lie as they lay; the invariant at one element more. -/
def goesOn (B Bs : Nat) (I : List Int → World → Prop) (xs : List Int) (W : World) : Exit → Act → World → Prop
  | .normal, _, W' => KeepsFrom B W W' ∧ W'.heap[Bs]? = W.heap[Bs]? ∧ I xs W'
  | _, _, _ => False

theorem range_all {n : Nat} {g : Operand} {ps : Array Tmp} {assign body : Code} {Q : Exit → Act → World → Prop} {a : Act} {w : World} (hn : 2 ≤ n) (lo0 hi0 Bs : Nat) (g1 : lo0 < 18446744073709551616) (g2 : hi0 < 18446744073709551616)
    (hg : a.eval g = .func (.func 19) #[] #[.pointer (some ⟨Bs, 0, none⟩)]) (hps : ps.size = 1)
    (I : List Int → World → Prop)
    (hI : ∀ pre A B row, I pre A → A.grownBy B row → (∀ r, row = some r → r = Bs ∨ (w.heap.size ≤ r ∧ ∃ o : Obj, A.heap[r]? = some o ∧ o.isCells = false)) → I pre B)
    (hIT : ∀ pre A, I pre A → Tab A) (h0 : I [] w) (hD : Two w Bs lo0 hi0) (a₁ : Int → Act)
    (hassign : ∀ (l : Nat) (x : Int) (W : World) (K : Act → World → Prop), K (a₁ x) W →
      assign.wpIn (Fence.wide.inRound l) (n - 1 - 1) Ybad.prog (Exit.then K (fun _ _ _ => False)) { tmps := (ps.zip #[Value.int .i64 x]).foldl (fun t (p, v) => t.setIfInBounds p v) a.tmps, defers := [] } W)
    (hbody : ∀ (l : Nat) (pre : List Int) (x : Int) (W : World), I pre W → pre ++ [x] <+: Pl.upto lo0 hi0 128 → body.wpIn (Fence.wide.inRound l) (n - 1 - 1) Ybad.prog (goesOn w.heap.size Bs I (pre ++ [x]) W) (a₁ x) W)
    (hdone : ∀ (W : World), I (Pl.upto lo0 hi0 128) W → W.heap[w.heap.size]? = some (.deferred (some [])) → Q .normal { a with defers := { target := .collected w.heap.size, args := #[] } :: a.defers } W) :
    (Code.rangeFunc g ps assign body).wpIn Fence.wide n Ybad.prog Q a w := by
  refine wpIn_rangeFunc (fun fn _ => ?_)
  have hBs := hD.lt
  -- the loop's record, by its state
  let rec_ : LoopState → Loop := fun st => { state := st, pending := none, fn, tmps := a.tmps, params := ps, assign, body, defers := w.heap.size }
  have hrec : ∀ st, rec_ st = { state := st, pending := none, fn, tmps := a.tmps, params := ps, assign, body, defers := w.heap.size } := fun _ => rfl
  generalize rec_ = R at hrec
  obtain ⟨W1, hW1⟩ : ∃ W1, (w.alloc (.deferred (some []))).alloc (.loop (R .ready)) = W1 := ⟨_, rfl⟩
  have hl1 : W1.heap[w.heap.size + 1]? = some (.loop (R .ready)) := by
    rw [← hW1]; have := World.alloc_heap_new (w.alloc (.deferred (some []))) (.loop (R .ready)); rwa [World.size_alloc] at this
  have hk1 : W1.heap[w.heap.size]? = some (.deferred (some [])) := by
    rw [← hW1]; exact (Below.heap_alloc _ _ _ (by simp)).trans (World.alloc_heap_new w _)
  have hi1 : I [] W1 := by
    rw [← hW1]
    exact hI _ _ _ none (hI _ _ _ none h0 (World.grownBy_alloc _ _ _) (fun r e => by cases e)) (World.grownBy_alloc _ _ _) (fun r e => by cases e)
  have hd1 : Two W1 Bs lo0 hi0 := by
    rw [← hW1]; exact (hD.kept (World.grownBy_alloc _ _ none) (by simp)).kept (World.grownBy_alloc _ _ none) (by simp)
  -- the invariant with the book-keeping beside it
  let J : List Int → World → Prop := fun pre W => I pre W ∧ W.heap[w.heap.size + 1]? = some (.loop (R .ready)) ∧ W.heap[w.heap.size]? = some (.deferred (some []))
  have hJ : Abide Bs J := by
    rintro pre A B row ⟨hi, hl, hk⟩ hgr hr
    have ne : ∀ k, w.heap.size ≤ k → some k ≠ row := fun k hk e => by have := hr k e.symm; omega
    exact ⟨hI _ _ _ _ hi hgr (fun r e => .inl (hr r e)), (hgr.block _ (Array.getElem?_eq_some_iff.1 hl).1 (ne _ (by omega))).trans hl, (hgr.block _ (Array.getElem?_eq_some_iff.1 hk).1 (ne _ (by omega))).trans hk⟩
  refine ⟨w.heap.size + 1, [{ target := .collected w.heap.size, args := #[] }], W1, { target := .fn (.func 19) #[.pointer (some ⟨Bs, 0, none⟩)], args := #[.func (.yield (w.heap.size + 1)) #[] #[]] }, W1, 19,
    #[.func (.yield (w.heap.size + 1)) #[] #[], .pointer (some ⟨Bs, 0, none⟩)], W1, ?_, ?_, fun _ _ => trivial, ?_, fun _ => by omega, ?_⟩
  · rw [← hW1, hrec]; exact run_enterLoop_outer _ _ _ _ _
  · simp only [resolve, hg]
    simp [go_sem]
  · simp [invoke, go_sem]
  · refine (all1_round (n - 1) (w.heap.size + 1) Bs lo0 hi0 (by omega) g1 g2 J (fun _ _ => False) hJ (fun pre A h => hIT pre A h.1) ?_ W1 hd1 ⟨hi1, hl1, hk1⟩).mono ?_
    · -- one round: yield, the record busy, the assignment and the body, the record ready again
      rintro pre x W ⟨hi, hl, hk⟩ hpre
      have hlt : w.heap.size + 1 < W.heap.size := (Array.getElem?_eq_some_iff.1 hl).1
      have hy := run_yield (P := Ybad.prog) (args := #[.int .i64 x]) hl (by rw [hrec]; simp [hps])
      rw [hrec] at hy
      refine ⟨fn, _, assign, body, hy, roundIn_of_wpIn trivial (hassign _ x W _ ⟨_, run_beginRound hl (by rw [hrec]), ?_⟩)⟩
      obtain ⟨Wb, hWb⟩ : ∃ Wb, W.putObj (w.heap.size + 1) (.loop { R .ready with state := .busy }) = Wb := ⟨_, rfl⟩
      rw [hWb]
      have hlb : Wb.heap[w.heap.size + 1]? = some (.loop { R .ready with state := .busy }) := by rw [← hWb]; exact World.putObj_heap_same hlt
      have hkb : Wb.heap[w.heap.size]? = some (.deferred (some [])) := by rw [← hWb]; exact (World.putObj_heap_other (by omega)).trans hk
      have hdb : Wb.heap[Bs]? = W.heap[Bs]? := by rw [← hWb]; exact World.putObj_heap_other (by omega)
      have hib : I pre Wb := by
        rw [← hWb]; exact hI _ _ _ (some (w.heap.size + 1)) hi (grownBy_putObj' _ _ _) (fun r e => by cases e; exact .inr ⟨by omega, _, hl, rfl⟩)
      refine wpIn_mono (hbody _ pre x Wb hib hpre) ?_
      rintro e a3 W3 hp
      cases e with
      | normal =>
        obtain ⟨hkf, hd3, hi3⟩ := hp
        have hl3 := hkf.same _ _ (by omega) hlb rfl
        have hk3 := hkf.same _ _ (Nat.le_refl _) hkb rfl
        refine ⟨_, _, run_endRound none hl3, .inl ⟨rfl, ⟨hI _ _ _ (some (w.heap.size + 1)) hi3 (grownBy_putObj' _ _ _) (fun r e => by cases e; exact .inr ⟨by omega, _, hl3, rfl⟩), ?_, (World.putObj_heap_other (by omega)).trans hk3⟩, ?_⟩⟩
        · rw [World.putObj_heap_same (Array.getElem?_eq_some_iff.1 hl3).1, hrec]; rfl
        · exact (World.putObj_heap_other (by omega)).trans (hd3.trans hdb)
      | ret => exact hp.elim
      | exit id => exact hp.elim
      | goto t => exact hp.elim
      | panic ch => exact hp.elim
      | outgrown => exact hp.elim
    · rintro e W2 ⟨⟨v, rfl⟩, (⟨hi, hl, hk⟩ | ⟨_, _, hf⟩)⟩
      · refine ⟨none, _, by have := run_endLoop (P := Ybad.prog) hl (by rw [hrec]; simp); rw [hrec] at this; exact this, ?_⟩
        refine hdone _ (hI _ _ _ (some (w.heap.size + 1)) hi (grownBy_putObj' _ _ _) (fun r e => by cases e; exact .inr ⟨by omega, _, hl, rfl⟩)) ((World.putObj_heap_other (by omega)).trans hk)
      · exact hf.elim

end Go.Proofs.YbulkatmyDoor
