/-
  (relSet).all$1 called with a function literal for yield (LawS2247AStops$1): the walk of YbulkatmyDoorIter.lean, outside a fence.
-/
import Derived.Test.YbulkatmyDoorIter
namespace Go.Proofs.YbulkatmyDoor
open Go.RowKit

set_option maxRecDepth 100000 in
set_option maxHeartbeats 1000000 in
theorem all1_calls (Bs lo0 hi0 : Nat) (c0' c1' : Value) (g1 : lo0 < 18446744073709551616) (g2 : hi0 < 18446744073709551616) (J Jx : List Int → World → Prop)
    (hJ : Abide Bs J) (hJT : ∀ pre A, J pre A → Tab A)
    (hY : ∀ pre x W, J pre W → pre ++ [x] <+: Pl.upto lo0 hi0 128 → Calls Ybad.prog 10 #[.int .i64 x, c0', c1'] W fun e W' =>
      (e = .returned (.bool true) ∧ J (pre ++ [x]) W' ∧ W'.heap[Bs]? = W.heap[Bs]?) ∨ (e = .returned (.bool false) ∧ Jx (pre ++ [x]) W'))
    (W : World) (hD : Two W Bs lo0 hi0) (h0 : J [] W) :
    Calls Ybad.prog 19 #[.func (.func 10) #[] #[c0', c1'], .pointer (some ⟨Bs, 0, none⟩)] W fun e W' => (∃ v, e = .returned v) ∧
      (J (Pl.upto lo0 hi0 128) W' ∨ (∃ pre, pre <+: Pl.upto lo0 hi0 128 ∧ Jx pre W')) := by
  go_enter Ybad.func19, Ybad.ntmps19
  go_wp2_with fail
  go_loopw [] (fun wr => ∃ (m lo hi : Nat), Pl.St lo0 hi0 m lo hi ∧ Two wr Bs lo hi ∧ J (Pl.upto lo0 hi0 m) wr) (fun wr => left Bs wr)
  case atStart => exact ⟨0, lo0, hi0, Pl.St.start g1 g2, hD, h0⟩
  case round =>
    obtain ⟨m, lo, hi, hst, hd, hj⟩ := hrel
    have hT := hJT _ _ hj
    have d0 := hd.cell0
    have d1 := hd.cell1
    by_cases hz : lo = 0 ∧ hi = 0
    · obtain ⟨rfl, rfl⟩ := hz
      go_wp2_with (go_at_call 20; refine ((empty_yes _)).mono ?_; rintro e w1 ⟨rfl, hb1⟩)
      go_end0
      refine ⟨⟨_, rfl⟩, .inl ?_⟩
      rw [← hst.over]
      exact hJ.below hj hb1
    · obtain ⟨hf, hup, hpre, hst', hless⟩ := hst.step hz
      have h1 := hst.lo64
      have h2 := hst.hi64
      have hlow : ∀ w, Tab w → Calls Ybad.prog 23 #[.agg #[.int .u64 (lo : Int), .int .u64 (hi : Int)]] w fun e w' =>
        e = .returned (.int .i64 (Pl.lowest lo hi : Nat)) ∧ Below w.heap.size w w' := fun w hw => lowest_any lo hi h1 h2 w hw
      generalize Pl.lowest lo hi = f at hf hup hpre hst' hless hlow
      have Hlow : Hid (∀ w, Tab w → Calls Ybad.prog 23 #[.agg #[.int .u64 (lo : Int), .int .u64 (hi : Int)]] w fun e w' => e = .returned (.int .i64 (f : Int)) ∧ Below w.heap.size w w') := hlow
      clear hlow
      have Hup : Hid (Pl.upto lo0 hi0 (f + 1) = Pl.upto lo0 hi0 m ++ [(f : Int)]) := hup
      clear hup
      go_wp2_with (first
        | (go_at_call 20; refine ((empty_no lo hi h1 h2 hz _)).mono ?_; rintro e w1 ⟨rfl, hb1⟩; have hd1 := hd.below hb1; have c0 := hd1.cell0; have c1 := hd1.cell1; have hj1 := hJ.below hj hb1; have hT1 := hJT _ _ hj1)
        | (go_at_call 23; refine ((Hlow.out _ hT1)).mono ?_; rintro e w2 ⟨rfl, hb2⟩; have hd2 := hd1.below hb2; have hj2 := hJ.below hj1 hb2))
      have hR := hY _ (f : Int) w2 hj2 hpre
      refine hR.mono ?_
      clear hR
      rintro e w3 (⟨rfl, hj3, hk3⟩ | ⟨rfl, hjx⟩)
      · have hd3 : Two w3 Bs lo hi := hk3.trans hd2
        have hT3 := hJT _ _ hj3
        clear hd1 hd2 d0 d1 c0 c1 hT hT1 hj hj1 hj2 hb1 hb2 hk3 hY hz
        have c0 := hd3.cell0
        have c1 := hd3.cell1
        go_wp2_with fail
        have hT3' : Tab w3.drew := hT3
        have hd3' : Two w3.drew Bs lo hi := hd3
        have s1 := sLo_lt f
        have s2 := sHi_lt f hf
        go_region_with (first
          | (go_at_call 23; refine (Hlow.out _ hT3').mono ?_; rintro e w4 ⟨rfl, hb4⟩; have hd4 := hd3'.below hb4; have c04 := hd4.cell0; have c14 := hd4.cell1)
          | (go_at_call 22; refine (single_any f hf _).mono ?_; rintro e w5 ⟨rfl, hb5⟩; have hd5 := hd4.below hb5; have c05 := hd5.cell0; have c15 := hd5.cell1)
          | (go_at_call 21; refine (minus_any lo hi _ _ h1 h2 s1 s2 _).mono ?_; rintro e w6 ⟨rfl, hb6⟩; have hd6 := hd5.below hb6; have c06 := hd6.cell0; have c16 := hd6.cell1; have f06 := hd6.frozen0; have f16 := hd6.frozen1))
        all_goals
          have hj7 := hJ.tail (.int .u64 (Pl.sub lo (Pl.sLo f) : Nat)) (.int .u64 (Pl.sub hi (Pl.sHi f) : Nat)) hj3 hb4 hb5 hb6
          have hd7 := hd6.set (Pl.sub lo (Pl.sLo f)) (Pl.sub hi (Pl.sHi f))
          rw [← Hup.out] at hj7
          clear c04 c14 c05 c15 c06 c16 f06 f16 c0 c1
          go_wp2
          go_roundw
          case rel => exact ⟨f + 1, _, _, hst', hd7, hj7⟩
          case measure => rw [hd7.left, hd.left]; exact hless
      · go_wp2
        refine bodyPost_ret (results_none rfl _ _ _) rfl ?_
        exact ⟨⟨_, rfl⟩, .inr ⟨_, hpre, hjx⟩⟩

end Go.Proofs.YbulkatmyDoor
