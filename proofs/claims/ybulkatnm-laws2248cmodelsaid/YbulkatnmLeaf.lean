/-
  THE LEAVES of readBeneath's road: an entry's timestamp and state; Stamps.Run at a read.
-/
import Derived.Test.YbulkatnmRows
import Derived.Test.YbulkatnmPlain
import Derived.Deep.LoopGhost
import Derived.WalkKit
import Derived.WalkSpells
import Derived.WalkLawsBesides
import Derived.Deep.QuietTactic
import Derived.BigQuiet
namespace Go.Proofs.Ybulkatnm
open Go.RowKit

theorem method_ts (t s : Int) (w : World) : (method 172 30 (.agg #[.int .u64 t, .int .i32 s]) "Timestamp").run Yba.prog w = .ok (27, .agg #[.int .u64 t, .int .i32 s]) w := by kernel_rfl
theorem method_st (t s : Int) (w : World) : (method 172 30 (.agg #[.int .u64 t, .int .i32 s]) "State").run Yba.prog w = .ok (26, .agg #[.int .u64 t, .int .i32 s]) w := by kernel_rfl

set_option maxHeartbeats 400000 in
theorem ts_any (b : Nat) (t s : Int) (w : World) (c0 : w.cell? ⟨b, 0, none⟩ = some (.int .u64 t)) (c1 : w.cell? ⟨b, 1, none⟩ = some (.int .i32 s)) :
    Calls Yba.prog 6 #[.pointer (some ⟨b, 0, none⟩)] w fun e w' => e = .returned (.int .u64 t) ∧ Below w.heap.size w w' := by
  have hm := method_ts t s
  go_enter Yba.func6, Yba.ntmps6
  go_wp2
  go_ret
  exact ⟨rfl, (Below.refl _ _).alloc (Nat.le_refl _) _⟩

set_option maxHeartbeats 400000 in
theorem aborted_any (b : Nat) (t s : Int) (w : World) (c0 : w.cell? ⟨b, 0, none⟩ = some (.int .u64 t)) (c1 : w.cell? ⟨b, 1, none⟩ = some (.int .i32 s)) :
    Calls Yba.prog 7 #[.pointer (some ⟨b, 0, none⟩)] w fun e w' => e = .returned (.bool (s == 2)) ∧ Below w.heap.size w w' := by
  have hm := method_st t s
  go_enter Yba.func7, Yba.ntmps7
  go_wp2
  go_ret
  exact ⟨rfl, (Below.refl _ _).alloc (Nat.le_refl _) _⟩

set_option maxHeartbeats 400000 in
theorem lasting_any (b : Nat) (t s : Int) (w : World) (c0 : w.cell? ⟨b, 0, none⟩ = some (.int .u64 t)) (c1 : w.cell? ⟨b, 1, none⟩ = some (.int .i32 s)) :
    Calls Yba.prog 8 #[.pointer (some ⟨b, 0, none⟩)] w fun e w' => e = .returned (.bool (s == 1)) ∧ Below w.heap.size w w' := by
  have hm := method_st t s
  go_enter Yba.func8, Yba.ntmps8
  go_wp2
  go_ret
  exact ⟨rfl, (Below.refl _ _).alloc (Nat.le_refl _) _⟩

set_option maxHeartbeats 400000 in
theorem run_any (b : Nat) (r t : Int) (w : World) (c0 : w.cell? ⟨b, 0, none⟩ = some (.int .u64 r)) (f0 : w.frozen? ⟨b, 0, none⟩ = false) :
    Calls Yba.prog 9 #[.pointer (some ⟨b, 0, none⟩), .bool false, .int .u64 t] w fun e w' => e = .returned (.tuple #[]) ∧ w' = w.setCell ⟨b, 0, none⟩ (.int .u64 (Pl.top r t)) := by
  by_cases h : r < t
  · have e : Pl.top r t = t := by simp [Pl.top, h]
    rw [e]; clear e
    go_enter Yba.func9, Yba.ntmps9
    go_wp2
    go_end0
    exact ⟨rfl, rfl⟩
  · have e : Pl.top r t = r := by simp [Pl.top, h]
    rw [e]; clear e
    go_enter Yba.func9, Yba.ntmps9
    go_wp2
    go_end0
    exact ⟨rfl, rfl⟩

/-- The list of writes in memory: a block an entry, below n₀. -/
def Chain (n₀ : Nat) (W : World) : Option Addr → List Pl.Ent → Prop
  | p, [] => p = none
  | p, e :: es => ∃ (b : Nat) (q : Option Addr), p = some ⟨b, 0, none⟩ ∧ b < n₀ ∧ W.heap[b]? = some (.cells #[.int .u64 e.ts, .int .i32 e.s, .int .i64 e.val, .pointer q] 32 (0, 0)) ∧ Chain n₀ W q es

theorem Chain.below {n₀ : Nat} {A B : World} (h : Below n₀ A B) : ∀ {p : Option Addr} {es : List Pl.Ent}, Chain n₀ A p es → Chain n₀ B p es
  | _, [], hl => hl
  | _, _ :: _, ⟨b, q, hp, hb, hc, hr⟩ => ⟨b, q, hp, hb, (h.block b hb).trans hc, Chain.below h hr⟩

/-- The four cells of an entry. -/
theorem ent_cells {W : World} {b : Nat} {t s v : Int} {q : Option Addr} (h : W.heap[b]? = some (.cells #[.int .u64 t, .int .i32 s, .int .i64 v, .pointer q] 32 (0, 0))) :
    W.cell? ⟨b, 0, none⟩ = some (.int .u64 t) ∧ W.cell? ⟨b, 1, none⟩ = some (.int .i32 s) ∧ W.cell? ⟨b, 2, none⟩ = some (.int .i64 v) ∧ W.cell? ⟨b, 3, none⟩ = some (.pointer q) := by
  simp [World.cell?, h]

end Go.Proofs.Ybulkatnm
