/-
  (relSet).all$1: the iterator: its state is the captured receiver, two words in block Bs, which it writes itself between two rounds.
-/
import Derived.RangeFuncBox
import Derived.RangeFuncCalls
import Derived.RangeFuncLeaves
import Derived.OwnWalkIn
import Derived.TacticsInMore
import Derived.LoopNIn
import Derived.LoopIn
import Derived.Deep.RegionWith
import Derived.Test.YbulkatmyDoorModel
namespace Go.Proofs.YbulkatmyDoor
open Go.RowKit

attribute [local go_sem] Oper.semAt_some

theorem grown_of_below {w w' : World} (h : Below w.heap.size w w') : w.grownBy w' none := ⟨h.os, h.tape, h.output, h.size, fun k hk _ => h.block k hk⟩

/-- The iterator's state: the two words of the set, in block B. -/
def Two (W : World) (B lo hi : Nat) : Prop := W.heap[B]? = some (.cells #[.int .u64 (lo : Int), .int .u64 (hi : Int)] 24 (0, 0))

theorem Two.lt {W : World} {B lo hi : Nat} (h : Two W B lo hi) : B < W.heap.size := (Array.getElem?_eq_some_iff.1 h).1
theorem Two.cell0 {W : World} {B lo hi : Nat} (h : Two W B lo hi) : W.cell? ⟨B, 0, none⟩ = some (.int .u64 (lo : Int)) := by simp [World.cell?, show W.heap[B]? = _ from h]
theorem Two.cell1 {W : World} {B lo hi : Nat} (h : Two W B lo hi) : W.cell? ⟨B, 1, none⟩ = some (.int .u64 (hi : Int)) := by simp [World.cell?, show W.heap[B]? = _ from h]
theorem Two.frozen0 {W : World} {B lo hi : Nat} (h : Two W B lo hi) : W.frozen? ⟨B, 0, none⟩ = false := by simp [World.frozen?, show W.heap[B]? = _ from h]
theorem Two.frozen1 {W : World} {B lo hi : Nat} (h : Two W B lo hi) : W.frozen? ⟨B, 1, none⟩ = false := by simp [World.frozen?, show W.heap[B]? = _ from h]
theorem Two.kept {W W' : World} {row : Option Nat} {B lo hi : Nat} (h : Two W B lo hi) (hg : W.grownBy W' row) (hne : some B ≠ row) : Two W' B lo hi := (hg.block B h.lt hne).trans h
theorem Two.below {W W' : World} {B lo hi : Nat} (h : Two W B lo hi) (hb : Below W.heap.size W W') : Two W' B lo hi := h.kept (grown_of_below hb) (by simp)
theorem setCell_block {W : World} {B o : Nat} {cs : Array Value} {t : TypeId} {fr : Nat × Nat} (v : Value) (h : W.heap[B]? = some (.cells cs t fr)) : (W.setCell ⟨B, o, none⟩ v).heap[B]? = some (.cells (cs.setIfInBounds o v) t fr) := by
  obtain ⟨hlt, hk⟩ := Array.getElem?_eq_some_iff.1 h
  show (W.heap.modify B _)[B]? = _
  rw [Array.getElem?_eq_getElem (by rw [Array.size_modify]; exact hlt), Array.getElem_modify_self, hk]
  rfl
theorem Two.set {W : World} {B lo hi : Nat} (a b : Nat) (h : Two W B lo hi) : Two ((W.setCell ⟨B, 0, none⟩ (.int .u64 (a : Int))).setCell ⟨B, 1, none⟩ (.int .u64 (b : Int))) B a b := by
  have := setCell_block (o := 1) (.int .u64 (b : Int)) (setCell_block (o := 0) (.int .u64 (a : Int)) h)
  unfold Two
  simpa using this

/-- How much is left, read off the state: for the loop's measure. -/
def left (B : Nat) (W : World) : Nat := match W.heap[B]? with
  | some (.cells cs _ _) => (intOf (cs.getD 0 undef)).toNat + (intOf (cs.getD 1 undef)).toNat
  | _ => 0
theorem Two.left {W : World} {B lo hi : Nat} (h : Two W B lo hi) : left B W = lo + hi := by simp [YbulkatmyDoor.left, show W.heap[B]? = _ from h, intOf]

theorem sLo_lt (f : Nat) : Pl.sLo f < 18446744073709551616 := by
  unfold Pl.sLo
  split
  · rename_i h
    have : 2 ^ f < 2 ^ 64 := Nat.pow_lt_pow_right (by omega) h
    simpa using this
  · omega
theorem sHi_lt (f : Nat) (hf : f < 128) : Pl.sHi f < 18446744073709551616 := by
  unfold Pl.sHi
  split
  · omega
  · have : 2 ^ (f - 64) < 2 ^ 64 := Nat.pow_lt_pow_right (by omega) (by omega)
    simpa using this

theorem grown_setCell (W : World) (a : Addr) (v : Value) : W.grownBy (W.setCell a v) (some a.block) :=
  ⟨rfl, rfl, rfl, (KeepsWalks.setCell W _ v).size, fun k _ hk => Below.heap_setCell _ _ _ k (fun e => hk (by rw [e]))⟩
theorem grown_drew (W : World) : W.grownBy W.drew none := ⟨rfl, rfl, rfl, Nat.le_refl _, fun _ _ _ => rfl⟩

/-- The caller's invariant abides the iterator's own steps: new blocks, and its state's block. -/
def Abide (Bs : Nat) (J : List Int → World → Prop) : Prop := ∀ pre A B row, J pre A → A.grownBy B row → (∀ r, row = some r → r = Bs) → J pre B

theorem Abide.below {Bs : Nat} {J : List Int → World → Prop} (hJ : Abide Bs J) {pre : List Int} {A B : World} (h : J pre A) (hb : Below A.heap.size A B) : J pre B :=
  hJ _ _ _ none h (grown_of_below hb) (fun r e => by cases e)

/-- The step between two rounds, 's = s.minus(single(s.first()))'. -/
theorem Abide.tail {Bs : Nat} {J : List Int → World → Prop} (hJ : Abide Bs J) {pre : List Int} {w3 w4 w5 w6 : World} (a b : Value) (hj3 : J pre w3) (hb4 : Below w3.drew.heap.size w3.drew w4) (hb5 : Below w4.heap.size w4 w5) (hb6 : Below w5.heap.size w5 w6) :
    J pre ((w6.setCell ⟨Bs, 0, none⟩ a).setCell ⟨Bs, 1, none⟩ b) := by
  have j3 : J pre w3.drew := hJ _ _ _ none hj3 (grown_drew w3) (fun r e => by cases e)
  have j6 := hJ.below (hJ.below (hJ.below j3 hb4) hb5) hb6
  refine hJ _ _ _ (some Bs) (hJ _ _ _ (some Bs) j6 (grown_setCell w6 ⟨Bs, 0, none⟩ a) (fun r e => ?_)) (grown_setCell _ ⟨Bs, 1, none⟩ b) (fun r e => ?_)
  · cases e; rfl
  · cases e; rfl

set_option maxRecDepth 100000 in
set_option maxHeartbeats 1000000 in
theorem all1_round (n l Bs lo0 hi0 : Nat) (hn : 1 ≤ n) (g1 : lo0 < 18446744073709551616) (g2 : hi0 < 18446744073709551616) (J Jx : List Int → World → Prop)
    (hJ : Abide Bs J) (hJT : ∀ pre A, J pre A → Tab A)
    (hY : ∀ pre x W, J pre W → pre ++ [x] <+: Pl.upto lo0 hi0 128 → YieldAt Fence.wide (n - 1) Ybad.prog l #[.int .i64 x] W fun e W' =>
      (e = .returned (.bool true) ∧ J (pre ++ [x]) W' ∧ W'.heap[Bs]? = W.heap[Bs]?) ∨ (e = .returned (.bool false) ∧ Jx (pre ++ [x]) W'))
    (W : World) (hD : Two W Bs lo0 hi0) (h0 : J [] W) :
    CallsIn Fence.wide n Ybad.prog 19 #[.func (.yield l) #[] #[], .pointer (some ⟨Bs, 0, none⟩)] W fun e W' => (∃ v, e = .returned v) ∧
      (J (Pl.upto lo0 hi0 128) W' ∨ (∃ pre, pre <+: Pl.upto lo0 hi0 128 ∧ Jx pre W')) := by
  refine callsIn_of_wp Ybad.func19 rfl trivial ?_ rfl
  simp only [Ybad.ntmps19, List.size_toArray, List.length_cons, List.length_nil, Nat.reduceAdd, Nat.reduceSub, Array.replicate_succ, Array.replicate_zero, List.push_toArray, List.append_toArray, List.nil_append, List.cons_append]
  gi_wp2_with fail
  gi_loopw [] (fun wr => ∃ (m lo hi : Nat), Pl.St lo0 hi0 m lo hi ∧ Two wr Bs lo hi ∧ J (Pl.upto lo0 hi0 m) wr) (fun wr => left Bs wr)
  case atStart => exact ⟨0, lo0, hi0, Pl.St.start g1 g2, hD, h0⟩
  case round =>
    obtain ⟨m, lo, hi, hst, hd, hj⟩ := hrel
    have hT := hJT _ _ hj
    have d0 := hd.cell0
    have d1 := hd.cell1
    by_cases hz : lo = 0 ∧ hi = 0
    · obtain ⟨rfl, rfl⟩ := hz
      gi_wp2_with (refine ⟨trivial, ?_⟩; gi_at_call 20; refine (callsIn_wide.2 (empty_yes _)).mono ?_; rintro e w1 ⟨rfl, hb1⟩)
      go_end0
      refine ⟨⟨_, rfl⟩, .inl ?_⟩
      rw [← hst.over]
      exact hJ.below hj hb1
    · obtain ⟨hf, hup, hpre, hst', hless⟩ := hst.step hz
      have h1 := hst.lo64
      have h2 := hst.hi64
      have hlow : ∀ w, Tab w → Calls Ybad.prog 23 #[.agg #[.int .u64 (lo : Int), .int .u64 (hi : Int)]] w fun e w' =>
        e = .returned (.int .i64 (Pl.lowest lo hi : Nat)) ∧ Below w.heap.size w w' := fun w hw => lowest_any lo hi h1 h2 w hw
      generalize Pl.lowest lo hi = f at hf hup hpre hst' hless hlow
      have Hlow : Hid (∀ w, Tab w → Calls Ybad.prog 23 #[.agg #[.int .u64 (lo : Int), .int .u64 (hi : Int)]] w fun e w' => e = .returned (.int .i64 (f : Int)) ∧ Below w.heap.size w w') := hlow
      clear hlow
      have Hup : Hid (Pl.upto lo0 hi0 (f + 1) = Pl.upto lo0 hi0 m ++ [(f : Int)]) := hup
      clear hup
      gi_wp2_with (first
        | (refine ⟨trivial, ?_⟩; gi_at_call 20; refine (callsIn_wide.2 (empty_no lo hi h1 h2 hz _)).mono ?_; rintro e w1 ⟨rfl, hb1⟩; have hd1 := hd.below hb1; have c0 := hd1.cell0; have c1 := hd1.cell1; have hj1 := hJ.below hj hb1; have hT1 := hJT _ _ hj1)
        | (refine ⟨trivial, ?_⟩; gi_at_call 23; refine (callsIn_wide.2 (Hlow.out _ hT1)).mono ?_; rintro e w2 ⟨rfl, hb2⟩; have hd2 := hd1.below hb2; have hj2 := hJ.below hj1 hb2))
      obtain ⟨fn, tmps, assign, body, hy, hR⟩ := hY _ (f : Int) w2 hj2 hpre
      rw [hy]
      gi_wp2
      refine hR.mono ?_
      clear hR hy
      rintro e w3 (⟨rfl, hj3, hk3⟩ | ⟨rfl, hjx⟩)
      · have hd3 : Two w3 Bs lo hi := hk3.trans hd2
        have hT3 := hJT _ _ hj3
        clear hd1 hd2 d0 d1 c0 c1 hT hT1 hj hj1 hj2 hb1 hb2 hk3 hY hz
        have c0 := hd3.cell0
        have c1 := hd3.cell1
        gi_wp2_with fail
        refine wpIn_wide.2 ?_
        have hT3' : Tab w3.drew := hT3
        have hd3' : Two w3.drew Bs lo hi := hd3
        have s1 := sLo_lt f
        have s2 := sHi_lt f hf
        go_region_with (first
          | (go_at_call 23; refine (Hlow.out _ hT3').mono ?_; rintro e w4 ⟨rfl, hb4⟩; have hd4 := hd3'.below hb4; have c04 := hd4.cell0; have c14 := hd4.cell1)
          | (go_at_call 22; refine (single_any f hf _).mono ?_; rintro e w5 ⟨rfl, hb5⟩; have hd5 := hd4.below hb5; have c05 := hd5.cell0; have c15 := hd5.cell1)
          | (go_at_call 21; refine (minus_any lo hi _ _ h1 h2 s1 s2 _).mono ?_; rintro e w6 ⟨rfl, hb6⟩; have hd6 := hd5.below hb6; have c06 := hd6.cell0; have c16 := hd6.cell1; have f06 := hd6.frozen0; have f16 := hd6.frozen1))
        all_goals
          have hj7 := hJ.tail (.int .u64 (Pl.sub lo (Pl.sLo f) : Nat)) (.int .u64 (Pl.sub hi (Pl.sHi f) : Nat)) hj3 hb4 hb5 hb6
          have hd7 := hd6.set (Pl.sub lo (Pl.sLo f)) (Pl.sub hi (Pl.sHi f))
          rw [← Hup.out] at hj7
          clear c04 c14 c05 c15 c06 c16 f06 f16 c0 c1
          gi_wp2
          go_roundw
          case rel => exact ⟨f + 1, _, _, hst', hd7, hj7⟩
          case measure => rw [hd7.left, hd.left]; exact hless
      · gi_wp2
        refine bodyPost_ret (results_none rfl _ _ _) rfl ?_
        exact ⟨⟨_, rfl⟩, .inr ⟨_, hpre, hjx⟩⟩

end Go.Proofs.YbulkatmyDoor
