/-
  entryCode and zzs2254bpick: the walks.
-/
import Derived.Test.YbulkatqsDoorRows
import Derived.WalkKit
import Derived.WalkSpells
import Derived.WalkLawsBesides
import Derived.Maps.RangeWalk
import Derived.Maps.StringElems
namespace Go.Proofs.YbulkatqsDoor
open Go.RowKit Go.Maps

theorem law3 : Keyed Ybad.prog 3 := int_keyed Ybad.underlying3

/-- The table as the rows list it. -/
def tab : DataW Unit := Rows.laid_example_com_hollowtree_hollowtree_internal_git_entryTypes

/-- The four types' names, by their codes. -/
def nm (c : Int) : List UInt8 := if c = 1 then [99, 111, 109, 109, 105, 116] else if c = 2 then [116, 114, 101, 101] else if c = 3 then [98, 108, 111, 98] else [116, 97, 103]

theorem tab_at (c : Int) (h1 : 1 ≤ c) (h4 : c ≤ 4) : tab.atKey (.int .i64 c) .nil = .lit (.string (nm c)) := by
  have : c = 1 ∨ c = 2 ∨ c = 3 ∨ c = 4 := by omega
  rcases this with rfl | rfl | rfl | rfl <;> rfl

theorem tab_has (x : Int) (h : Maps.has tab (.int .i64 x) = true) : 1 ≤ x ∧ x ≤ 4 := by
  simp [Maps.has, tab, Rows.laid_example_com_hollowtree_hollowtree_internal_git_entryTypes, Lit.sameKey] at h
  omega

theorem nm_inj {a b : Int} (ha : 1 ≤ a ∧ a ≤ 4) (hb : 1 ≤ b ∧ b ≤ 4) (h : nm a = nm b) : a = b := by
  have h1 : a = 1 ∨ a = 2 ∨ a = 3 ∨ a = 4 := by omega
  have h2 : b = 1 ∨ b = 2 ∨ b = 3 ∨ b = 4 := by omega
  rcases h1 with rfl | rfl | rfl | rfl <;> rcases h2 with rfl | rfl | rfl | rfl <;> first | rfl | (exact absurd h (by decide))

/-- The table lies in memory: the variable's cell, and the map's block. -/
structure TabIn (w : World) (bm n : Nat) : Prop where
  cell : w.cell? ⟨0, 0, none⟩ = some (.map (some bm))
  own : w.ownsMap Ybad.prog 3 (plainElem (H := Unit) Ybad.prog 9) bm n tab

set_option maxRecDepth 100000 in
set_option maxHeartbeats 1000000 in
theorem code_any (c : Int) (h1 : 1 ≤ c) (h4 : c ≤ 4) (typ : ByteArray) (ht : typ.data.toList = nm c) (bm n : Nat) (w : World) (hT : TabIn w bm n) :
    Calls Ybad.prog 6 #[.string typ] w fun e w' => e = .returned (.int .i64 c) ∧ Below w.heap.size w w' := by
  have hc := hT.cell
  have hown := hT.own
  have HT : Hid (typ.data.toList = nm c) := ht
  clear ht
  go_enter Ybad.func6, Ybad.ntmps6
  go_wp2_with (first
    | (at_range; refine wpList_range_own _ rfl _ 27 rfl 3 9 law3 Ybad.underlying27 _ bm n _ rfl hown ?_; intro w0 hrg0 hg0 hs0)
    | go_in)
  go_frame
  go_loopw [3] (fun _ wr => ∃ (left : Lit → Bool) (cnt : Nat), wr.ranges Ybad.prog 3 (plainElem (H := Unit) Ybad.prog 9) bm w.heap.size n tab left cnt ∧ left (.int .i64 c) = true ∧ (∀ z, left z = true → Maps.has tab z = true) ∧ Below w.heap.size w wr)
    (fun _ wr => wr.rangeLeft bm w.heap.size)
  case atStart =>
    refine ⟨_, _, hrg0, ?_, fun _ h => h, ⟨hg0.os, hg0.tape, hg0.output, hg0.size, fun k hk => hg0.block k hk (by simp)⟩⟩
    have : c = 1 ∨ c = 2 ∨ c = 3 ∨ c = 4 := by omega
    rcases this with rfl | rfl | rfl | rfl <;> rfl
  case round =>
    obtain ⟨left, cnt, hrg, hlc, hlh, hB⟩ := hrel
    go_wp2_with (first
      | (at_next; refine wpList_next_ranges_is _ rfl _ rfl 3 9 .i64 law3 Ybad.underlying3 Ybad.underlying9 bm w.heap.size n _ _ _ rfl hrg ?_ ?_)
      | go_in)
    · intro _ hl0
      exact absurd hlc (by rw [hl0]; simp)
    · intro x s w1 cnt1 hwx hws hlx hat hrg1 hlt hg1 hs1 hen
      have hx := tab_has x (hlh _ hlx)
      have hs : s.data.toList = nm x := by
        have := hat .nil
        rw [tab_at x hx.1 hx.2] at this
        simpa using this.symm
      have hB1 : Below w.heap.size w w1 := hB.grown hg1 hB.size (fun k hk => by cases hk; exact Nat.le_refl _)
      by_cases hxc : x = c
      · subst hxc
        have he : (s.toList == typ.toList) = true := by
          rw [ByteArray.toList_eq, ByteArray.toList_eq, hs, HT.out]; simp
        clear hs hat
        go_wp2
        go_ret
        exact ⟨rfl, hB1⟩
      · have he : (s.toList == typ.toList) = false := by
          rw [ByteArray.toList_eq, ByteArray.toList_eq, hs, HT.out, beq_eq_false_iff_ne]
          exact fun h => hxc (nm_inj hx ⟨h1, h4⟩ h)
        clear hs hat
        go_wp2
        go_roundw
        case rel =>
          refine ⟨_, cnt1, hrg1, ?_, fun z hz => hlh z (by simp at hz; exact hz.1), hB1⟩
          simp [hlc, Lit.sameKey]
          exact fun h => hxc h.symm
        case measure => rw [hrg1.left_eq, hrg.left_eq]; exact hlt

theorem TabIn.below {w w' : World} {bm n : Nat} (h : TabIn w bm n) (hb : Below w.heap.size w w') : TabIn w' bm n := by
  refine ⟨?_, h.own.kept (⟨hb.os, hb.tape, hb.output, hb.size, fun k hk _ => hb.block k hk⟩ : w.grownBy w' none) (by simp)⟩
  have hlt : (0 : Nat) < w.heap.size := World.block_lt_of_cell? w ⟨0, 0, none⟩ h.cell
  exact (hb.cell (p := ⟨0, 0, none⟩) hlt).trans h.cell

/-- 'name, ok := entryTypes[c]'. -/
theorem TabIn.look {w : World} {bm n : Nat} (h : TabIn w bm n) (c : Int) (h1 : 1 ≤ c) (h4 : c ≤ 4) :
    ∃ s : ByteArray, s.data.toList = nm c ∧ (Instr.lookup 27 (.map (some bm)) (.int .i64 c) true).run Ybad.prog w = .ok (.tuple #[.string s, .bool true]) w := by
  have wc : (Lit.int .i64 c).wf = true := by
    have : c = 1 ∨ c = 2 ∨ c = 3 ∨ c = 4 := by omega
    rcases this with rfl | rfl | rfl | rfl <;> rfl
  obtain ⟨v, ps, hrun, hv⟩ := h.own.look_ok law3 Ybad.underlying27 (z := .string ByteArray.empty) (by kernel_rfl) (zd := .lit (.string [])) (zp := []) (plainElem_string Ybad.underlying9 (by decide)) (keyOf_int_mk Ybad.underlying3 wc)
  obtain ⟨s, rfl, hz, _⟩ := plainElem_string_inv Ybad.underlying9 hv
  have hh : Maps.has tab (.int .i64 c) = true := by
    have : c = 1 ∨ c = 2 ∨ c = 3 ∨ c = 4 := by omega
    rcases this with rfl | rfl | rfl | rfl <;> rfl
  have ha : tab.atKey (.int .i64 c) (.lit (.string [])) = .lit (.string (nm c)) := by
    have : c = 1 ∨ c = 2 ∨ c = 3 ∨ c = 4 := by omega
    rcases this with rfl | rfl | rfl | rfl <;> rfl
  rw [hh] at hrun
  refine ⟨s, ?_, hrun⟩
  simp only [Prod.mk.injEq] at hz
  rw [ha] at hz
  simpa using hz.1.symm

set_option maxHeartbeats 400000 in
theorem pick_any (k : Nat) (hk : k < 256) (w : World) :
    Calls Ybad.prog 5 #[.int .u8 (k : Int)] w fun e w' => ∃ typ : ByteArray, e = .returned (.tuple #[.string typ, .int .i64 ((k % 4 + 1 : Nat) : Int)]) ∧ typ.data.toList = nm ((k % 4 + 1 : Nat) : Int) ∧ w = w' := by
  have hm : k % 4 = 0 ∨ k % 4 = 1 ∨ k % 4 = 2 ∨ k % 4 = 3 := by omega
  have hkm : ((k : Int) % 4) = ((k % 4 : Nat) : Int) := by omega
  rcases hm with h | h | h | h
  all_goals
    rw [h] at hkm ⊢
    go_enter Ybad.func5, Ybad.ntmps5
    go_wp2
    go_ret2
    exact ⟨_, rfl, rfl, rfl⟩

end Go.Proofs.YbulkatqsDoor
