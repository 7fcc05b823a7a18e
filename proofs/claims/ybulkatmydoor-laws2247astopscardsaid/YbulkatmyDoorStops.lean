/-
  LawS2247AStops: the walk.
-/
import Derived.Test.YbulkatmyDoorIterFn
import Derived.Test.YbulkatmyDoorGot
namespace Go.Proofs.YbulkatmyDoor
open Go.RowKit

/-- What the law's own cells hold when 'pre' has come: limit's box; got's box. -/
def InvS (w : World) (lim : Nat) (pre : List Int) (W : World) : Prop :=
  (∃ v, Boxed W (w.heap.size + 1 + 1) 25 v ∧ W.ownsRow (w.heap.size + 4) 3 1 v pre.length (pre.map (Value.int .i64))) ∧ Boxed W w.heap.size 3 (.int .i64 (lim : Int)) ∧ Below w.heap.size w W ∧ w.heap.size + 4 ≤ W.heap.size

theorem InvS.appended {w W W2 : World} {lim : Nat} {pre : List Int} {x : Int} {v2 : Value} (hr : Boxed W w.heap.size 3 (.int .i64 (lim : Int))) (hB : Below w.heap.size w W) (hs : w.heap.size + 4 ≤ W.heap.size)
    (hv2 : Boxed W2 (w.heap.size + 1 + 1) 25 v2) (hr2 : W2.ownsRow (w.heap.size + 4) 3 1 v2 (pre.length + 1) (pre.map (Value.int .i64) ++ [.int .i64 x])) (hk2 : KeepsOthers W W2)
    (ho2 : ∀ j, j < w.heap.size + 4 → j ≠ w.heap.size + 1 + 1 → W2.heap[j]? = W.heap[j]?) (hb2 : Below (w.heap.size + 1 + 1) W W2) :
    InvS w lim (pre ++ [x]) W2 ∧ W2.heap[w.heap.size + 1 + 1 + 1]? = W.heap[w.heap.size + 1 + 1 + 1]? :=
  ⟨⟨⟨_, hv2, by simpa using hr2⟩, (ho2 _ (by omega) (by omega)).trans hr, hB.trans (hb2.mono (by omega)), Nat.le_trans hs hk2.size⟩, ho2 _ (by omega) (by omega)⟩

set_option maxRecDepth 100000 in
set_option maxHeartbeats 1000000 in
/-- 'got = append(got, i); return len(got) < limit && len(got) <= 128'. -/
theorem lit_any (w : World) (lim : Nat) (pre : List Int) (x : Int) (W : World) (hpl : pre.length + 1 ≤ 128) (h : InvS w lim pre W) :
    Calls Ybad.prog 10 #[.int .i64 x, .pointer (some ⟨w.heap.size + 1 + 1, 0, none⟩), .pointer (some ⟨w.heap.size, 0, none⟩)] W fun e W' =>
      e = .returned (.bool (decide (pre.length + 1 < lim))) ∧ InvS w lim (pre ++ [x]) W' ∧ W'.heap[w.heap.size + 1 + 1 + 1]? = W.heap[w.heap.size + 1 + 1 + 1]? := by
  obtain ⟨⟨v, hv, hrow⟩, hr, hB, hs⟩ := h
  obtain ⟨i0, hi0, hz0, hz1, hz2⟩ := info_parts info3
  have hc := hv.cell
  by_cases hl : pre.length + 1 < lim
  · have hd : decide (pre.length + 1 < lim) = true := by simpa using hl
    rw [hd]
    clear hd
    have h128 : decide ((pre.length : Int) + 1 ≤ 128) = true := by simp; omega
    go_enter Ybad.func10, Ybad.ntmps10
    go_wp2_with (at_builtin; refine wpList_append_own _ rfl _ _ 25 rfl (w.heap.size + 4) 3 i0 (.int .i64 0) 1 8 Ybad.underlying25 hi0 hz0 hz1 hz2 rfl (by decide) _ _ _ rfl (hrow.alloc _) ⟨W.heap.size, 0, none⟩ 1 1 [.int .i64 x] rfl rfl (cell_one_new _ _ _) (by simp [Value.oneCell']) (by unfold maxLen; omega) (by omega) (by simp; omega) ?_; intro v' w1 hown' hgrow _; obtain ⟨g', cap', rfl⟩ := ownsRow_succ hown'; obtain ⟨hv1, hv2, hr2, hk2, ho2, hb2⟩ := boxed_append hv hrow hs (by omega) hown' hgrow; have hc1 := hv1.cell; have hf1 := hv1.frozen; have hc2 := hv2.cell; have hl2 : Boxed (w1.setCell ⟨w.heap.size + 1 + 1, 0, none⟩ (.slice (some ⟨g', 0, none⟩) (pre.length + 1) cap')) w.heap.size 3 (.int .i64 (lim : Int)) := (ho2 _ (by omega) (by omega)).trans hr; have hc3 := hl2.cell)
    go_ret
    exact ⟨rfl, InvS.appended hr hB hs hv2 hr2 hk2 ho2 hb2⟩
  · have hd : decide (pre.length + 1 < lim) = false := by simpa using hl
    rw [hd]
    clear hd
    have hd' : decide ((pre.length : Int) + 1 < (lim : Int)) = false := by simp; omega
    go_enter Ybad.func10, Ybad.ntmps10
    go_wp2_with (at_builtin; refine wpList_append_own _ rfl _ _ 25 rfl (w.heap.size + 4) 3 i0 (.int .i64 0) 1 8 Ybad.underlying25 hi0 hz0 hz1 hz2 rfl (by decide) _ _ _ rfl (hrow.alloc _) ⟨W.heap.size, 0, none⟩ 1 1 [.int .i64 x] rfl rfl (cell_one_new _ _ _) (by simp [Value.oneCell']) (by unfold maxLen; omega) (by omega) (by simp; omega) ?_; intro v' w1 hown' hgrow _; obtain ⟨g', cap', rfl⟩ := ownsRow_succ hown'; obtain ⟨hv1, hv2, hr2, hk2, ho2, hb2⟩ := boxed_append hv hrow hs (by omega) hown' hgrow; have hc1 := hv1.cell; have hf1 := hv1.frozen; have hc2 := hv2.cell; have hl2 : Boxed (w1.setCell ⟨w.heap.size + 1 + 1, 0, none⟩ (.slice (some ⟨g', 0, none⟩) (pre.length + 1) cap')) w.heap.size 3 (.int .i64 (lim : Int)) := (ho2 _ (by omega) (by omega)).trans hr; have hc3 := hl2.cell)
    go_ret
    exact ⟨rfl, InvS.appended hr hB hs hv2 hr2 hk2 ho2 hb2⟩

/-- The world where all() is called. -/
def S0 (w : World) (lo hi lim : Nat) : World :=
  (((w.alloc (.cells #[.int .i64 (lim : Int)] 3)).alloc (.cells #[.int .u64 (lo : Int), .int .u64 (hi : Int)] 24)).alloc (.cells #[.slice none 0 0] 25)).alloc (.cells #[.int .u64 (lo : Int), .int .u64 (hi : Int)] 24)

theorem S0_size (w : World) (lo hi lim : Nat) : (S0 w lo hi lim).heap.size = w.heap.size + 4 := by simp [S0]

theorem S0_inv (w : World) (lo hi lim : Nat) : InvS w lim [] (S0 w lo hi lim) ∧ Two (S0 w lo hi lim) (w.heap.size + 1 + 1 + 1) lo hi := by
  have b1 := Boxed.new w 3 (.int .i64 (lim : Int))
  have b3 := Boxed.new ((w.alloc (.cells #[.int .i64 (lim : Int)] 3)).alloc (.cells #[.int .u64 (lo : Int), .int .u64 (hi : Int)] 24)) 25 (.slice none 0 0)
  simp only [World.size_alloc] at b3
  refine ⟨⟨⟨_, b3.alloc _, World.ownsRow_nil _ _ _ _⟩, ((b1.alloc _).alloc _).alloc _, ?_, ?_⟩, ?_⟩
  · exact ((((Below.refl _ w).alloc (Nat.le_refl _) _).alloc (by simp) _).alloc (by simp; omega) _).alloc (by simp; omega) _
  · rw [S0_size]; exact Nat.le_refl _
  · have := World.alloc_heap_new (((w.alloc (.cells #[.int .i64 (lim : Int)] 3)).alloc (.cells #[.int .u64 (lo : Int), .int .u64 (hi : Int)] 24)).alloc (.cells #[.slice none 0 0] 25)) (.cells #[.int .u64 (lo : Int), .int .u64 (hi : Int)] 24)
    simp only [World.size_alloc] at this
    exact this

/-- It abides the iterator's own steps. -/
theorem InvS.abide {w : World} {lim : Nat} : Abide (w.heap.size + 1 + 1 + 1) (InvS w lim) := by
  rintro pre A B row ⟨⟨v, hv, hrow⟩, hr, hb, hs⟩ hg hrw
  have ne : ∀ k, k < w.heap.size + 1 + 1 + 1 → some k ≠ row := fun k hk e => by
    have := hrw k e.symm; omega
  refine ⟨⟨v, hv.kept hg (ne _ (by omega)), hrow.kept hg ?_⟩, hr.kept hg (ne _ (by omega)), ?_, Nat.le_trans hs hg.size⟩
  · rcases hrow.2 with ⟨rfl, _⟩ | ⟨g, cap, cur, rfl, hgb, hgc, _⟩
    · exact .inl rfl
    · refine .inr fun e => ?_
      simp only [Value.ownBlock] at e
      have := hrw g e.symm
      omega
  · exact hb.grown hg (by omega) (fun k e => by have := hrw k e; omega)

/-- What all() hands a consumer that says stop behind 'lim' items. -/
theorem stops_seq (lo hi lim : Nat) (h1 : lo < 18446744073709551616) (h2 : hi < 18446744073709551616) (hl : 1 ≤ lim) (w : World) (hT : Tab w) :
    Calls Ybad.prog 19 #[.func (.func 10) #[] #[.pointer (some ⟨w.heap.size + 1 + 1, 0, none⟩), .pointer (some ⟨w.heap.size, 0, none⟩)], .pointer (some ⟨w.heap.size + 1 + 1 + 1, 0, none⟩)] (S0 w lo hi lim) fun e W' =>
      (∃ v, e = .returned v) ∧ InvS w lim ((Pl.upto lo hi 128).take lim) W' := by
  refine (all1_calls (w.heap.size + 1 + 1 + 1) lo hi _ _ h1 h2 (fun pre W => InvS w lim pre W ∧ pre.length < lim) (fun pre W => InvS w lim pre W ∧ pre.length = lim)
    (fun pre A B row hp hg hr => ⟨InvS.abide pre A B row hp.1 hg hr, hp.2⟩) (fun pre A h => hT.below hT.pos h.1.2.2.1) ?_ (S0 w lo hi lim) (S0_inv w lo hi lim).2 ⟨(S0_inv w lo hi lim).1, hl⟩).mono ?_
  · rintro pre x W ⟨hinv0, hlt⟩ hpre
    have hpl : pre.length + 1 ≤ 128 := by
      have := hpre.length_le
      have h128 := Pl.upto_len lo hi 128
      simp at this; omega
    refine (lit_any w lim pre x W hpl hinv0).mono ?_
    rintro e W' ⟨rfl, hinv, hk⟩
    by_cases hc : pre.length + 1 < lim
    · exact .inl ⟨by simp [hc], ⟨hinv, by simpa using hc⟩, hk⟩
    · exact .inr ⟨by simp [hc], hinv, by simp; omega⟩
  · rintro e W' ⟨hv, ⟨hinv, hlt⟩ | ⟨pre, hpre, hinv, hlen⟩⟩
    · refine ⟨hv, ?_⟩
      rw [List.take_of_length_le (by omega)]
      exact hinv
    · refine ⟨hv, ?_⟩
      rw [← hlen, ← List.prefix_iff_eq_take.1 hpre]
      rw [hlen]
      exact hinv

set_option maxRecDepth 100000 in
set_option maxHeartbeats 1000000 in
theorem stops_any (lo hi k : Nat) (h1 : lo < 18446744073709551616) (h2 : hi < 18446744073709551616) (hk : k < 256) (w : World) (hT : Tab w) :
    Calls Ybad.prog 4 #[.int .u64 (lo : Int), .int .u64 (hi : Int), .int .u8 (k : Int)] w fun e w' => e = .returned (.bool true) ∧ Below w.heap.size w w' := by
  have hmf : ∀ (fn : Fn) (first cap : Array Value) (w : World), (Instr.makeFunc fn first cap).run Ybad.prog w = .ok (.func fn first cap) w := fun _ _ _ _ => rfl
  go_enter Ybad.func4, Ybad.ntmps4
  go_wp2_with (go_at_call 7; refine (all_any lo hi _).mono ?_; rintro e w' ⟨rfl, rfl⟩)
  obtain ⟨lim, hlim⟩ : ∃ lim : Nat, lim = k % 129 + 1 := ⟨_, rfl⟩
  rw [show ((k : Int) % 129 + 1) = (lim : Int) from by omega]
  refine (stops_seq lo hi lim h1 h2 (by omega) w hT).mono ?_
  rintro e W ⟨⟨v0, rfl⟩, ⟨v, hv, hrow⟩, hr, hB, hs⟩
  have hle : lim ≤ 129 := by omega
  have hge : 1 ≤ lim := by omega
  clear hlim hmf
  have hc := hv.cell
  have hcl := hr.cell
  go_wp2_with fail
  refine (model_any lo hi h1 h2 W).mono ?_
  rintro e w2 ⟨v2, rfl, hown2, hb2⟩
  have hzl := Pl.upto_len lo hi 128
  generalize Pl.upto lo hi 128 = zs at hrow hown2 hzl
  have hg2 := grown_of_below hb2
  have hv2 := hv.kept hg2 (by simp)
  have hr2 := hr.kept hg2 (by simp)
  have hrow2 := hrow.kept hg2 (by cases hx : v.ownBlock <;> simp)
  have hB2 : Below w.heap.size w w2 := hB.trans (hb2.mono hB.size)
  have hc2 := hv2.cell
  have hcl2 := hr2.cell
  clear hv hr hrow hc hcl hb2 hg2 hB hT
  by_cases hgt : lim < zs.length
  · -- more than lim: want = want[:limit]
    obtain ⟨g, cap, rfl, hcap⟩ : ∃ g cap, v2 = .slice (some ⟨g, 0, none⟩) zs.length cap ∧ zs.length ≤ cap := by
      rcases hown2.2 with ⟨_, h0⟩ | ⟨g, cap, cur, rfl, _, _, hcap, _⟩
      · omega
      · exact ⟨g, cap, rfl, hcap⟩
    have hL : (zs.take lim).length = lim := by simp; omega
    rw [hL] at hrow2
    obtain ⟨g', cap', rfl⟩ : ∃ g' cap', v = .slice (some ⟨g', 0, none⟩) lim cap' := by
      rcases hrow2.2 with ⟨_, h0⟩ | ⟨g', cap', cur, rfl, _⟩
      · omega
      · exact ⟨g', cap', rfl⟩
    have e1 := own_cells hrow2
    have e2 : ∀ j, j < lim → w2.cell? ⟨g, j, none⟩ = some (.int .i64 ((zs.take lim)[j]?.getD 0)) := fun j hj => by
      rw [own_cells hown2 j (by omega)]
      simp [hj]
    have hgt' : (lim : Int) < (zs.length : Int) := by omega
    have E1 : Hid (∀ j, j < lim → w2.cell? ⟨g', j, none⟩ = some (.int .i64 ((zs.take lim)[j]?.getD 0))) := e1
    have E2 : Hid (∀ j, j < lim → w2.cell? ⟨g, j, none⟩ = some (.int .i64 ((zs.take lim)[j]?.getD 0))) := e2
    clear e1 e2 hL hrow2 hown2 hgt
    go_wp2_with (go_at_call 8; refine (equal_same g' g lim cap' _ (zs.take lim) (by omega) w2 E1.out E2.out).mono ?_; rintro e w3 ⟨rfl, nq, rfl⟩)
    go_ret
    exact ⟨rfl, hB2.os, hB2.tape, hB2.output, hB2.size, hB2.block⟩
  · rw [List.take_of_length_le (by omega)] at hrow2
    have hE := equal_rows (by omega) hrow2 hown2
    have hex : ∃ g cap, v2 = .slice g zs.length cap := by
      rcases hown2.2 with ⟨rfl, h0⟩ | ⟨g, cap, cur, rfl, _⟩
      · exact ⟨none, 0, by rw [h0]⟩
      · exact ⟨_, _, rfl⟩
    obtain ⟨g, cap, rfl⟩ := hex
    have hgt' : ¬ (lim : Int) < (zs.length : Int) := by omega
    have HE : Hid (Calls Ybad.prog 8 #[v, .slice g zs.length cap] w2 fun e w' => e = .returned (.bool true) ∧ ∃ nq, w' = w2.drewN nq) := hE
    clear hE hrow2 hown2 hgt
    go_wp2_with (go_at_call 8; refine HE.out.mono ?_; rintro e w3 ⟨rfl, nq, rfl⟩)
    go_ret
    exact ⟨rfl, hB2.os, hB2.tape, hB2.output, hB2.size, hB2.block⟩

end Go.Proofs.YbulkatmyDoor
