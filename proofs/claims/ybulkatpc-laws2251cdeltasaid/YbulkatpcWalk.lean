/-
  changeOf and LawS2251CDelta: the walks.
-/
import Derived.Test.YbulkatpcMap
namespace Go.Proofs.Ybulkatpc
open Go.RowKit

/-- The world behind changeOf(e, n), n not 0: the element's box, the result's, the map. -/
def W9 (w : World) (s : ByteArray) (n : Int) : World :=
  ((w.alloc (.cells #[.string s] 34)).alloc (.cells #[.map (some (w.heap.size + 1 + 1)), .map none] 45)).alloc (.map #[entry s n] 1)

set_option maxHeartbeats 400000 in
theorem change_some (s : ByteArray) (n : Int) (hn : (n == 0) = false) (w : World) :
    Calls Yba.prog 9 #[.agg #[.string s], .int .u64 n] w fun e w' => e = .returned (.agg #[.map (some (w.heap.size + 1 + 1)), .map none]) ∧ W9 w s n = w' := by
  have hmm := @run_makeMap Yba.prog
  have hins := run_insert s n ((w.alloc (.cells #[.string s] 34)).alloc (.cells #[.map none, .map none] 45))
  simp only [World.size_alloc] at hins
  go_enter Yba.func9, Yba.ntmps9
  go_wp2
  exact bodyPost_ret (v := .agg #[.map (some (w.heap.size + 1 + 1)), .map none]) (by simp [results, Yba.results9, go_sem]) rfl ⟨rfl, rfl⟩

set_option maxHeartbeats 400000 in
theorem change_none (s : ByteArray) (w : World) :
    Calls Yba.prog 9 #[.agg #[.string s], .int .u64 0] w fun e w' => e = .returned (.agg #[.map none, .map none]) ∧ (w.alloc (.cells #[.string s] 34)).alloc (.cells #[.map none, .map none] 45) = w' := by
  go_enter Yba.func9, Yba.ntmps9
  go_wp2
  exact bodyPost_ret (v := .agg #[.map none, .map none]) (by simp [results, Yba.results9, go_sem]) rfl ⟨rfl, rfl⟩

/-- What the law needs of that world. -/
theorem W9_facts (w : World) (s : ByteArray) (n : Int) : (W9 w s n).heap[w.heap.size + 1 + 1]? = some (.map #[entry s n] 1) ∧ Below w.heap.size w (W9 w s n) ∧ (W9 w s n).heap.size = w.heap.size + 1 + 1 + 1 := by
  refine ⟨?_, (((Below.refl _ w).alloc (Nat.le_refl _) _).alloc (by simp) _).alloc (by simp; omega) _, by simp [W9]⟩
  have := heap_alloc_new ((w.alloc (.cells #[.string s] 34)).alloc (.cells #[.map (some (w.heap.size + 1 + 1)), .map none] 45)) (.map #[entry s n] 1)
  simp only [World.size_alloc] at this
  exact this

set_option maxHeartbeats 400000 in
theorem delta_zero (s t : ByteArray) (w : World) :
    Calls Yba.prog 4 #[.string s, .int .u64 0, .string t] w fun e w' => e = .returned (.bool true) ∧ Below w.heap.size w w' := by
  have h1 : ∀ (w : World) (r : Option Nat), (binOp .neq 43 (.map r) (.map none)).run Yba.prog w = .ok (.bool (!r.isNone)) w := fun w r => run_neq_map_nil w _ _ _ r Yba.underlying43
  have h2 : ∀ (w : World) (r : Option Nat), (binOp .eql 43 (.map r) (.map none)).run Yba.prog w = .ok (.bool r.isNone) w := fun w r => run_eql_map_nil w _ _ _ r Yba.underlying43
  go_enter Yba.func4, Yba.ntmps4
  go_wp2_with (go_at_call 9; refine (change_none s _).mono ?_; rintro e w1 ⟨rfl, rfl⟩)
  go_ret
  exact ⟨rfl, ((((Below.refl _ w).alloc (Nat.le_refl _) _).alloc (by simp) _).alloc (by simp; omega) _).alloc (by simp; omega) _⟩

/-- The world in which the law looks into the map: the element's box, what changeOf left, the box of d. -/
theorem look_facts (w : World) (s t : ByteArray) (n : Int) : ∃ W, W9 (w.alloc (.cells #[.string s] 34)) s n = W ∧ W.heap.size = w.heap.size + 1 + 1 + 1 + 1 ∧ Below w.heap.size w W ∧
    W.cell? ⟨w.heap.size, 0, none⟩ = some (.string s) ∧
    (∀ o, (Builtin.len_ #[43] 3 #[.map (some (w.heap.size + 1 + 1 + 1))]).run Yba.prog (W.alloc o) = .ok (.int .i64 1) (W.alloc o)) ∧
    (∀ o, (Instr.lookup 43 (.map (some (w.heap.size + 1 + 1 + 1))) (.agg #[.string s]) true).run Yba.prog (W.alloc o) = .ok (.tuple #[.int .u64 n, .bool true]) (W.alloc o)) ∧
    ((t.toList == s.toList) = false → ∀ o, (Instr.lookup 43 (.map (some (w.heap.size + 1 + 1 + 1))) (.agg #[.string t]) true).run Yba.prog (W.alloc o) = .ok (.tuple #[.int .u64 0, .bool false]) (W.alloc o)) := by
  obtain ⟨hm, hb, hs⟩ := W9_facts (w.alloc (.cells #[.string s] 34)) s n
  rw [World.size_alloc] at hm hs
  have hm' : ∀ o, ((W9 (w.alloc (.cells #[.string s] 34)) s n).alloc o).heap[w.heap.size + 1 + 1 + 1]? = some (.map #[entry s n] 1) := fun o => (Below.heap_alloc _ _ _ (by omega)).trans hm
  refine ⟨_, rfl, hs, ((Below.refl _ w).alloc (Nat.le_refl _) _).trans (hb.mono (by simp)), ?_, fun o => run_size s n _ 3 _ (hm' o), fun o => run_look_hit s n _ _ (hm' o), fun hne o => run_look_miss s t n _ _ (hm' o) hne⟩
  refine (hb.cell (p := ⟨w.heap.size, 0, none⟩) (by simp)).trans ?_
  rw [World.cell?_alloc_at _ _ _ _ rfl]
  rfl

set_option maxHeartbeats 400000 in
theorem delta_some (s t : ByteArray) (n : Int) (hn : (n == 0) = false) (w : World) :
    Calls Yba.prog 4 #[.string s, .int .u64 n, .string t] w fun e w' => e = .returned (.bool true) ∧ Below w.heap.size w w' := by
  have h1 : ∀ (w : World) (r : Option Nat), (binOp .neq 43 (.map r) (.map none)).run Yba.prog w = .ok (.bool (!r.isNone)) w := fun w r => run_neq_map_nil w _ _ _ r Yba.underlying43
  obtain ⟨W, hW, hsz, hB, hc, hl, hh, hx⟩ := look_facts w s t n
  cases hts : t.toList == s.toList with
  | true =>
    clear hx
    go_enter Yba.func4, Yba.ntmps4
    go_wp2_with (go_at_call 9; refine (change_some s n hn _).mono ?_; rintro e w1 ⟨rfl, hw1⟩; rw [hW] at hw1; subst hw1)
    go_ret
    exact ⟨rfl, hB.alloc hB.size _⟩
  | false =>
    have hx' := hx hts
    clear hx
    go_enter Yba.func4, Yba.ntmps4
    go_wp2_with (go_at_call 9; refine (change_some s n hn _).mono ?_; rintro e w1 ⟨rfl, hw1⟩; rw [hW] at hw1; subst hw1)
    go_ret
    exact ⟨rfl, hB.alloc hB.size _⟩

theorem delta_any (s t : ByteArray) (n : Int) (w : World) :
    Calls Yba.prog 4 #[.string s, .int .u64 n, .string t] w fun e w' => e = .returned (.bool true) ∧ Below w.heap.size w w' := by
  by_cases h : n = 0
  · subst h; exact delta_zero s t w
  · exact delta_some s t n (by simpa using h) w

end Go.Proofs.Ybulkatpc
