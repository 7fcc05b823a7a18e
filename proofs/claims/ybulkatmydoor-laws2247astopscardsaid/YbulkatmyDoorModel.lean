/-
  zzs2247amodel: the set bits, ascending, in a new slice.
-/
import Derived.Test.YbulkatmyDoorLeaf
import Derived.Maps.AppendAt
import Derived.RangeFuncBox
namespace Go.Proofs.YbulkatmyDoor
open Go.RowKit

theorem info3 : (Ybad.prog.info? 3).map (fun i => (i.zero, i.size, i.bytes)) = some (some (.int .i64 0), 1, 8) := by kernel_rfl

theorem bit_test (x k : Nat) (h : x < 18446744073709551616) : (bits BinOp.and IntKind.u64 ((x : Int) / 2 ^ k) 1 == 1) = x.testBit k := by
  have e : ((x : Int) / 2 ^ k) = ((x / 2 ^ k : Nat) : Int) := by rw [Int.natCast_ediv, Int.natCast_pow]; rfl
  have hle : x / 2 ^ k ≤ x := Nat.div_le_self _ _
  rw [e, show (1 : Int) = ((1 : Nat) : Int) from rfl, u64_and_nat _ 1 (by omega) (by omega), Nat.and_one_is_mod, Nat.testBit_eq_decide_div_mod_eq]
  rw [Bool.eq_iff_iff]
  simp
  omega

/-- The one row that an append may write is the call's own. -/
theorem own_from {W : World} {base e size n : Nat} {v : Value} {xs : List Value} (h : W.ownsRow base e size v n xs) : ∀ j, v.ownBlock = some j → base ≤ j := by
  intro j ej
  rcases h.2 with ⟨rfl, _⟩ | ⟨g, cap, cur, rfl, hb, _, _⟩
  · simp [Value.ownBlock] at ej
  · obtain rfl : g = j := by simpa [Value.ownBlock] using ej
    exact hb

/-- One element more. -/
theorem rel_hit {w wr w1 : World} {v v' : Value} {tmp : Obj} {L : List Int} {k : Int} (hown : wr.ownsRow w.heap.size 3 1 v L.length (L.map (Value.int .i64))) (hnx : Below w.heap.size w wr)
    (hown' : w1.ownsRow w.heap.size 3 1 v' (L.length + 1) (L.map (Value.int .i64) ++ [.int .i64 k])) (hgrow : (wr.alloc tmp).grownBy w1 v.ownBlock) :
    w1.ownsRow w.heap.size 3 1 v' (L ++ [k]).length ((L ++ [k]).map (Value.int .i64)) ∧ Below w.heap.size w w1 := by
  refine ⟨by simpa using hown', (hnx.alloc hnx.size tmp).grown hgrow (by have := hnx.size; simp; omega) (own_from hown)⟩

set_option maxHeartbeats 1000000 in
set_option maxRecDepth 100000 in
theorem model_any (lo hi : Nat) (h1 : lo < 18446744073709551616) (h2 : hi < 18446744073709551616) (w : World) :
    Calls Ybad.prog 9 #[.int .u64 (lo : Int), .int .u64 (hi : Int)] w fun e w' =>
      ∃ v, e = .returned v ∧ w'.ownsRow w.heap.size 3 1 v (Pl.upto lo hi 128).length ((Pl.upto lo hi 128).map (Value.int .i64)) ∧ Below w.heap.size w w' := by
  obtain ⟨i0, hi0, hz0, hz1, hz2⟩ := info_parts info3
  go_enter Ybad.func9, Ybad.ntmps9
  go_wp2
  go_loopw [5, 6] (fun v i wr => ∃ k : Nat, k ≤ 128 ∧ i = .int .i64 (k : Int) ∧ wr.ownsRow w.heap.size 3 1 v (Pl.upto lo hi k).length ((Pl.upto lo hi k).map (Value.int .i64)) ∧ Below w.heap.size w wr)
    (fun _ i _ => 128 - (intOf i).toNat)
  case atStart => exact ⟨0, Nat.zero_le _, rfl, World.ownsRow_nil _ _ _ _, Below.refl _ _⟩
  case round =>
    obtain ⟨k, hk, rfl, hown, hnx⟩ := hrel
    by_cases hlt : k < 128
    · have hkl := Pl.upto_len lo hi k
      have hsz := hnx.size
      by_cases h6 : k < 64
      · have hb := bit_test lo k h1
        rw [← Pl.bit_lo (hi := hi) h6] at hb
        cases hbit : Pl.bit lo hi k with
        | false =>
          rw [hbit] at hb
          have HR : Hid (Pl.upto lo hi (k + 1) = Pl.upto lo hi k) := Pl.upto_miss hbit
          clear hbit
          go_wp2
          go_roundw
          case rel => exact ⟨k + 1, by omega, by go_num, by rw [HR.out]; exact hown, hnx⟩
          case measure => simp [intOf]; omega
        | true =>
          rw [hbit] at hb
          have HR : Hid (Pl.upto lo hi (k + 1) = Pl.upto lo hi k ++ [(k : Int)]) := Pl.upto_hit hbit
          clear hbit
          go_wp2_with (at_builtin; refine wpList_append_own _ rfl _ _ 25 rfl w.heap.size 3 i0 (.int .i64 0) 1 8 Ybad.underlying25 hi0 hz0 hz1 hz2 rfl (by decide) _ _ _ rfl (hown.alloc _) ⟨wr.heap.size, 0, none⟩ 1 1 [.int .i64 (k : Int)] rfl rfl (cell_one_new _ _ _) (by simp [Value.oneCell']) (by unfold maxLen; omega) (by omega) (by simp; omega) ?_; intro v' w1 hown' hgrow _)
          have R := rel_hit hown hnx hown' hgrow
          clear hown' hgrow hown
          go_roundw
          case rel => exact ⟨k + 1, by omega, by go_num, by rw [HR.out]; exact R.1, R.2⟩
          case measure => simp [intOf]; omega
      · have hb := bit_test hi (k - 64) h2
        rw [← Pl.bit_hi (lo := lo) (by omega)] at hb
        have hge : (64 : Int) ≤ (k : Int) := by omega
        have hlt' : (k : Int) < 128 := by omega
        clear h6
        cases hbit : Pl.bit lo hi k with
        | false =>
          rw [hbit] at hb
          have HR : Hid (Pl.upto lo hi (k + 1) = Pl.upto lo hi k) := Pl.upto_miss hbit
          clear hbit
          go_wp2
          go_roundw
          case rel => exact ⟨k + 1, by omega, by go_num, by rw [HR.out]; exact hown, hnx⟩
          case measure => simp [intOf]; omega
        | true =>
          rw [hbit] at hb
          have HR : Hid (Pl.upto lo hi (k + 1) = Pl.upto lo hi k ++ [(k : Int)]) := Pl.upto_hit hbit
          clear hbit
          go_wp2_with (at_builtin; refine wpList_append_own _ rfl _ _ 25 rfl w.heap.size 3 i0 (.int .i64 0) 1 8 Ybad.underlying25 hi0 hz0 hz1 hz2 rfl (by decide) _ _ _ rfl (hown.alloc _) ⟨wr.heap.size, 0, none⟩ 1 1 [.int .i64 (k : Int)] rfl rfl (cell_one_new _ _ _) (by simp [Value.oneCell']) (by unfold maxLen; omega) (by omega) (by simp; omega) ?_; intro v' w1 hown' hgrow _)
          have R := rel_hit hown hnx hown' hgrow
          clear hown' hgrow hown
          go_roundw
          case rel => exact ⟨k + 1, by omega, by go_num, by rw [HR.out]; exact R.1, R.2⟩
          case measure => simp [intOf]; omega
    · go_wp2
      go_ret
      obtain rfl : k = 128 := by omega
      exact ⟨_, rfl, hown, hnx⟩
end Go.Proofs.YbulkatmyDoor
