/-
  LawS2254BTable and LawS2254BInverse: the walks.
-/
import Derived.Test.YbulkatqsDoorWalk
namespace Go.Proofs.YbulkatqsDoor
open Go.RowKit Go.Maps

set_option maxHeartbeats 400000 in
theorem table_any (k : Nat) (hk : k < 256) (bm n : Nat) (w : World) (hT : TabIn w bm n) :
    Calls Ybad.prog 3 #[.int .u8 (k : Int)] w fun e w' => e = .returned (.bool true) ∧ Below w.heap.size w w' := by
  go_enter Ybad.func3, Ybad.ntmps3
  go_wp2_with fail
  refine (pick_any k hk w).mono ?_
  rintro e w' ⟨typ, rfl, ht, rfl⟩
  have hcode := code_any ((k % 4 + 1 : Nat) : Int) (by omega) (by omega) typ ht bm n w hT
  clear ht
  generalize ((k % 4 + 1 : Nat) : Int) = c at hcode
  have HC : Hid (Calls Ybad.prog 6 #[.string typ] w fun e w' => e = .returned (.int .i64 c) ∧ Below w.heap.size w w') := hcode
  clear hcode
  go_wp2_with (go_at_call 6; refine HC.out.mono ?_; rintro e w1 ⟨rfl, hb1⟩)
  go_ret
  exact ⟨by simp, hb1⟩

set_option maxHeartbeats 400000 in
theorem inverse_any (k : Nat) (hk : k < 256) (bm n : Nat) (w : World) (hT : TabIn w bm n) :
    Calls Ybad.prog 4 #[.int .u8 (k : Int)] w fun e w' => e = .returned (.bool true) ∧ Below w.heap.size w w' := by
  go_enter Ybad.func4, Ybad.ntmps4
  go_wp2_with fail
  refine (pick_any k hk w).mono ?_
  rintro e w' ⟨typ, rfl, ht, rfl⟩
  have h1 : (1 : Int) ≤ ((k % 4 + 1 : Nat) : Int) := by omega
  have h4 : ((k % 4 + 1 : Nat) : Int) ≤ 4 := by omega
  generalize ((k % 4 + 1 : Nat) : Int) = c at ht h1 h4
  have HT : Hid (typ.data.toList = nm c) := ht
  clear ht
  go_wp2_with fail
  refine (code_any c h1 h4 typ HT.out bm n w hT).mono ?_
  rintro e w1 ⟨rfl, hb1⟩
  have hT1 := hT.below hb1
  have hc1 := hT1.cell
  obtain ⟨s, hs, hrun⟩ := hT1.look c h1 h4
  have he : (s.toList == typ.toList) = true := by
    rw [ByteArray.toList_eq, ByteArray.toList_eq, hs, HT.out]; simp
  clear hs
  go_wp2_with (go_at_call 6; refine (code_any c h1 h4 typ HT.out bm n _ hT1).mono ?_; rintro e w2 ⟨rfl, hb2⟩)
  go_ret
  exact ⟨rfl, hb1.trans (hb2.mono hb1.size)⟩

end Go.Proofs.YbulkatqsDoor
