/-
  THE LEAVES of relSet.all's road: what each small function hands back; each makes at most new blocks.
-/
import Derived.Test.YbulkatmyDoorRows
import Derived.Test.YbulkatmyDoorPlain
import Derived.Shelf.Spec.TrailingZeros
import Derived.WalkKit
import Derived.WalkSpells
import Derived.WalkLawsBesides
import Derived.Deep.QuietTactic
import Derived.BigQuiet
namespace Go.Proofs.YbulkatmyDoor
open Go.RowKit

/-- 'single' and its like: a word of 64 bits as it stands in a cell. -/
def U (n : Nat) : Value := .int .u64 (n : Int)
/-- A relSet as a value. -/
def RS (lo hi : Nat) : Value := .agg #[.int .u64 (lo : Int), .int .u64 (hi : Int)]

set_option maxHeartbeats 400000 in
theorem empty_yes (w : World) :
    Calls Ybad.prog 20 #[.agg #[.int .u64 ((0 : Nat) : Int), .int .u64 ((0 : Nat) : Int)]] w fun e w' => e = .returned (.bool true) ∧ Below w.heap.size w w' := by
  go_enter Ybad.func20, Ybad.ntmps20
  go_wp2
  go_ret
  exact ⟨rfl, (Below.refl _ _).alloc (Nat.le_refl _) _⟩

set_option maxHeartbeats 400000 in
theorem empty_no (lo hi : Nat) (h1 : lo < 18446744073709551616) (h2 : hi < 18446744073709551616) (hne : ¬ (lo = 0 ∧ hi = 0)) (w : World) :
    Calls Ybad.prog 20 #[.agg #[.int .u64 (lo : Int), .int .u64 (hi : Int)]] w fun e w' => e = .returned (.bool false) ∧ Below w.heap.size w w' := by
  have hb : (bits BinOp.or IntKind.u64 (lo : Int) (hi : Int) == 0) = false := by
    rw [u64_or_nat lo hi h1 h2, beq_eq_false_iff_ne]
    intro e
    have e0 : lo ||| hi = 0 := by exact_mod_cast e
    exact hne (Nat.or_eq_zero_iff.1 e0)
  clear hne
  go_enter Ybad.func20, Ybad.ntmps20
  go_wp2
  go_ret
  exact ⟨rfl, (Below.refl _ _).alloc (Nat.le_refl _) _⟩

set_option maxHeartbeats 400000 in
theorem minus_any (a b c d : Nat) (ha : a < 18446744073709551616) (hb : b < 18446744073709551616) (hc : c < 18446744073709551616) (hd : d < 18446744073709551616) (w : World) :
    Calls Ybad.prog 21 #[.agg #[.int .u64 (a : Int), .int .u64 (b : Int)], .agg #[.int .u64 (c : Int), .int .u64 (d : Int)]] w fun e w' =>
      e = .returned (.agg #[.int .u64 (Pl.sub a c : Nat), .int .u64 (Pl.sub b d : Nat)]) ∧ Below w.heap.size w w' := by
  have e1 : bits BinOp.andNot IntKind.u64 (a : Int) (c : Int) = ((Pl.sub a c : Nat) : Int) := u64_andNot_nat a c ha hc
  have e2 : bits BinOp.andNot IntKind.u64 (b : Int) (d : Int) = ((Pl.sub b d : Nat) : Int) := u64_andNot_nat b d hb hd
  go_enter Ybad.func21, Ybad.ntmps21
  go_wp2
  exact bodyPost_ret (v := .agg #[.int .u64 (Pl.sub a c : Nat), .int .u64 (Pl.sub b d : Nat)]) (by simp [results, Ybad.results21, go_sem]) rfl
    ⟨rfl, (((Below.refl _ _).alloc (Nat.le_refl _) _).alloc (by simp) _).alloc (by simp; omega) _⟩

theorem wrap_pow (k : Nat) (h : k < 64) : IntKind.u64.wrap (2 ^ k) = ((2 ^ k : Nat) : Int) := by
  have h1 : 2 ^ k < 2 ^ 64 := Nat.pow_lt_pow_right (by omega) h
  have e : ((2 : Int) ^ k) = ((2 ^ k : Nat) : Int) := by rw [Int.natCast_pow]; rfl
  rw [IntKind.wrap_u64, e]
  simp only [Nat.reducePow] at h1
  generalize 2 ^ k = z at h1
  omega

set_option maxHeartbeats 400000 in
theorem single_any (f : Nat) (hf : f < 128) (w : World) :
    Calls Ybad.prog 22 #[.int .i64 (f : Int)] w fun e w' =>
      e = .returned (.agg #[.int .u64 (Pl.sLo f : Nat), .int .u64 (Pl.sHi f : Nat)]) ∧ Below w.heap.size w w' := by
  by_cases h6 : f < 64
  · have e1 : Pl.sLo f = 2 ^ f := by simp [Pl.sLo, h6]
    have e2 : Pl.sHi f = 0 := by simp [Pl.sHi, h6]
    rw [e1, e2]
    have ew := wrap_pow f h6
    have hlt : (f : Int) < 64 := by omega
    clear e1 e2
    go_enter Ybad.func22, Ybad.ntmps22
    go_wp2
    exact bodyPost_ret (v := .agg #[.int .u64 ((2 ^ f : Nat) : Int), .int .u64 ((0 : Nat) : Int)]) (by simp [results, Ybad.results22, go_sem]) rfl
      ⟨rfl, (Below.refl _ _).alloc (Nat.le_refl _) _⟩
  · have e1 : Pl.sLo f = 0 := by simp [Pl.sLo, h6]
    have e2 : Pl.sHi f = 2 ^ (f - 64) := by simp [Pl.sHi, h6]
    rw [e1, e2]
    obtain ⟨k, rfl⟩ : ∃ k, f = 64 + k := ⟨f - 64, by omega⟩
    rw [show 64 + k - 64 = k by omega]
    have ew := wrap_pow k (by omega)
    have hlt : ¬ ((64 + k : Nat) : Int) < 64 := by omega
    clear e1 e2
    go_enter Ybad.func22, Ybad.ntmps22
    go_wp2
    exact bodyPost_ret (v := .agg #[.int .u64 ((0 : Nat) : Int), .int .u64 ((2 ^ k : Nat) : Int)]) (by simp [results, Ybad.results22, go_sem]) rfl
      ⟨rfl, (Below.refl _ _).alloc (Nat.le_refl _) _⟩

set_option maxHeartbeats 1000000 in
theorem tz_core (x k idx : Nat) (w : World) (hx0 : ((x : Int) == 0) = false)
    (key : IntKind.u64.wrap (bits BinOp.and IntKind.u64 (x : Int) (IntKind.u64.wrap (-(x : Int))) * 285870213051353865) / 288230376151711744 = (idx : Int))
    (hi : idx < 64) (hk : k < 64) (hcell : w.cell? ⟨0, idx, none⟩ = some (.int .u8 k)) :
    Calls Ybad.prog 34 #[.int .u64 (x : Int)] w fun e w' => e = .returned (.int .i64 (k : Int)) ∧ w' = w := by
  go_enter Ybad.func34, Ybad.ntmps34
  go_wp2_with (simp only [key])
  go_ret
  exact ⟨rfl, rfl⟩

theorem tz_zero (w : World) : Calls Ybad.prog 34 #[.int .u64 ((0 : Nat) : Int)] w fun e w' => e = .returned (.int .i64 64) ∧ w' = w := by
  go_enter Ybad.func34, Ybad.ntmps34
  go_wp2
  go_ret
  exact ⟨rfl, rfl⟩

theorem tz_any (x : Nat) (hx : x < 18446744073709551616) (w : World) (hT : TabAt 0 Lib.deBruijn64tab w) :
    Calls Ybad.prog 34 #[.int .u64 (x : Int)] w fun e w' => e = .returned (.int .i64 (Lib.ctz 64 x : Nat)) ∧ w' = w := by
  by_cases hx0 : x = 0
  · subst hx0; exact tz_zero w
  · obtain ⟨hlow, hk⟩ := Lib.lowest_bit 64 x hx0 hx
    obtain ⟨hi, htab⟩ := Lib.deBruijn64_at _ hk
    have hcell := hT _ hi
    rw [htab] at hcell
    exact tz_core x _ _ w (by simp; omega) (tz64_key x _ hx hx0 hlow) hi hk hcell

/-- The table behind bits.TrailingZeros64, in its variable (block 0). -/
def Tab (w : World) : Prop := TabAt 0 Lib.deBruijn64tab w

theorem Tab.pos {w : World} (h : Tab w) : 0 < w.heap.size := by
  have := h 0 (by decide)
  unfold World.cell? at this
  cases ho : w.heap[0]? with
  | none => simp [ho] at this
  | some o => exact (Array.getElem?_eq_some_iff.1 ho).1

theorem Tab.below {w w' : World} (h : Tab w) {B : Nat} (hB : 0 < B) (hb : Below B w w') : Tab w' := fun j hj =>
  (hb.cell (p := ⟨0, j, none⟩) hB).trans (h j hj)

set_option maxHeartbeats 400000 in
theorem lowest_any (lo hi : Nat) (h1 : lo < 18446744073709551616) (h2 : hi < 18446744073709551616) (w : World) (hT : Tab w) :
    Calls Ybad.prog 23 #[.agg #[.int .u64 (lo : Int), .int .u64 (hi : Int)]] w fun e w' =>
      e = .returned (.int .i64 (Pl.lowest lo hi : Nat)) ∧ Below w.heap.size w w' := by
  have hT' : ∀ o, Tab (w.alloc o) := fun o => hT.below hT.pos ((Below.refl _ _).alloc (Nat.le_refl _) _)
  by_cases h0 : lo = 0
  · subst h0
    have hc : Lib.ctz 64 hi ≤ 64 := by
      by_cases hz : hi = 0
      · simp [Lib.ctz, hz]
      · exact Nat.le_of_lt (Lib.lowest_bit 64 hi hz h2).2
    have e1 : Pl.lowest 0 hi = 64 + Lib.ctz 64 hi := by simp [Pl.lowest]
    rw [e1]
    have htz := fun w hw => tz_any hi h2 w hw
    generalize Lib.ctz 64 hi = c at hc htz
    have Htz : Hid (∀ w, Tab w → Calls Ybad.prog 34 #[.int .u64 (hi : Int)] w fun e w' => e = .returned (.int .i64 (c : Int)) ∧ w' = w) := htz
    clear e1 htz
    go_enter Ybad.func23, Ybad.ntmps23
    go_wp2_with (go_at_call 34; refine (Htz.out _ (hT' _)).mono ?_; rintro e w' ⟨rfl, rfl⟩)
    go_ret
    exact ⟨by simp, (Below.refl _ _).alloc (Nat.le_refl _) _⟩
  · have e1 : Pl.lowest lo hi = Lib.ctz 64 lo := by simp [Pl.lowest, h0]
    rw [e1]
    have hb : ((lo : Int) != 0) = true := by rw [bne_iff_ne]; omega
    clear e1 h0
    go_enter Ybad.func23, Ybad.ntmps23
    go_wp2_with (go_at_call 34; refine (tz_any lo h1 _ (hT' _)).mono ?_; rintro e w' ⟨rfl, rfl⟩)
    go_ret
    exact ⟨rfl, (Below.refl _ _).alloc (Nat.le_refl _) _⟩

set_option maxHeartbeats 400000 in
/-- s.all(): the receiver is boxed; the function value captures the box. -/
theorem all_any (lo hi : Nat) (w : World) :
    Calls Ybad.prog 7 #[.agg #[.int .u64 (lo : Int), .int .u64 (hi : Int)]] w fun e w' =>
      e = .returned (.func (.func 19) #[] #[.pointer (some ⟨w.heap.size, 0, none⟩)]) ∧ w' = w.alloc (.cells #[.int .u64 (lo : Int), .int .u64 (hi : Int)] 24) := by
  go_enter Ybad.func7, Ybad.ntmps7
  go_wp2
  go_ret
  exact ⟨rfl, rfl⟩

/-- slices.Equal, both of no element. -/
theorem equal_none (a b : Option Addr) (c d : Nat) (w : World) :
    Calls Ybad.prog 8 #[.slice a 0 c, .slice b 0 d] w fun e w' => e = .returned (.bool true) ∧ w' = w := by
  go_enter Ybad.func8, Ybad.ntmps8
  go_wp2
  go_loop [13] (fun i => i = .int .i64 0) (fun _ => 0)
  case atStart => rfl
  case round =>
    subst hrel
    go_wp2
    go_ret
    exact ⟨rfl, rfl⟩

set_option maxHeartbeats 1000000 in
/-- slices.Equal, the same elements in both. -/
theorem equal_same (a b n c d : Nat) (zs : List Int) (hn : n ≤ 9223372036854775807) (w : World)
    (hc1 : ∀ j, j < n → w.cell? ⟨a, j, none⟩ = some (.int .i64 (zs[j]?.getD 0))) (hc2 : ∀ j, j < n → w.cell? ⟨b, j, none⟩ = some (.int .i64 (zs[j]?.getD 0))) :
    Calls Ybad.prog 8 #[.slice (some ⟨a, 0, none⟩) n c, .slice (some ⟨b, 0, none⟩) n d] w fun e w' => e = .returned (.bool true) ∧ ∃ nq, w' = w.drewN nq := by
  go_enter Ybad.func8, Ybad.ntmps8
  go_wp2
  go_loopw [13] (fun i wr => ∃ k nq : Nat, k ≤ n ∧ i = .int .i64 (k : Int) ∧ wr = w.drewN nq) (fun i _ => n - (intOf i).toNat)
  case atStart => exact ⟨0, 0, Nat.zero_le _, rfl, rfl⟩
  case round =>
    obtain ⟨k, nq, hk, rfl, rfl⟩ := hrel
    by_cases hlt : k < n
    · have g1 := hc1 k hlt
      have g2 := hc2 k hlt
      have hlt' : (k : Int) < (n : Int) := by omega
      clear hc1 hc2
      go_wp2
      go_quiet (fail)
      go_wp2
      exact ⟨⟨k + 1, _, by omega, by go_num, rfl⟩, by simp [intOf]; omega⟩
    · go_wp2
      go_ret
      exact ⟨rfl, _, rfl⟩

end Go.Proofs.YbulkatmyDoor
