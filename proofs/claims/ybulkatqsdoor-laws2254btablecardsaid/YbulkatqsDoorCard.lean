/-
  LawS2254BTable, LawS2254BInverse: THE ROWS, PROVED; THE TIED CARDS.
-/
import Derived.Test.YbulkatqsDoorLaid
import Derived.Test.YbulkatqsDoorLaws
import Derived.Test.YbulkatqsDoorTie
import Derived.Test.YbulkatqsDoorCards
import Derived.SevenTiedAt
import Derived.Carry
import Derived.ChangeVars
namespace Go.Proofs.YbulkatqsDoor
open Go.ChangeShapes Go.WideShapes Go.ChangeAt Go.WideMaps Go.WideElems Go.RowKit

theorem laidOut : laidOutB Ybad.prog = true := by kernel_rfl

/-- A byte is a natural number below 256. -/
theorem nat_of_u8 {x : Int} (h : (Lit.int .u8 x).wf = true) : ∃ n : Nat, x = (n : Int) ∧ n < 256 := by
  have hb := bounds_u8 h
  exact ⟨x.toNat, by omega, by omega⟩

/-- The variable reads behind the call as it did: through the same places. -/
theorem vars_kept {H : Type} {enc : TypeId × Value → H} {W W' : World} {gs : List (DataW H)} {q : List MemPlace} (h : DataW.TrodVars enc Ybad.prog W (fun _ => true) [tabName] gs q) (hlt : ∀ x ∈ q, x.block < W.heap.size) (hb : Below W.heap.size W W') :
    DataW.TrodVars enc Ybad.prog W' (fun b => decide (b < W.heap.size)) [tabName] gs q := by
  obtain ⟨g, t, cs, fuel, d, p, rfl, hg, ht, hvar, hd, rfl⟩ := trodVars_one h
  obtain rfl := Option.some.inj (gTab.symm.trans hg)
  obtain rfl := Option.some.inj (tTab.symm.trans ht)
  obtain ⟨am, hcs⟩ : ∃ am, cs.toList = [.map am] := by
    rcases open_map Ybad.underlying27 hd with ⟨hcs, _⟩ | ⟨bm, _, _, _, _, hcs, _⟩
    · exact ⟨_, hcs⟩
    · exact ⟨_, hcs⟩
  have hvar' : W'.var? Ybad.prog tabName = some cs := by
    unfold World.var? at hvar ⊢
    rw [hg] at hvar ⊢
    simp only [Option.bind_some] at hvar ⊢
    have h0 : 0 < W.heap.size := by
      rcases Nat.lt_or_ge 0 W.heap.size with h' | h'
      · exact h'
      · rw [Array.getElem?_eq_none h'] at hvar; cases hvar
    rw [hb.block 0 h0]
    exact hvar
  have hT : DataW.Trod enc Ybad.prog W 0 (fun _ => true) true 27 (.map am) d p := ⟨fuel, by rw [hcs] at hd; exact hd⟩
  obtain ⟨fuel', hd'⟩ := Below.trod laidOut (by kernel_rfl) (of_decide_eq_true (by kernel_rfl)) hT hb (fun x hx => hlt x (List.mem_append_right _ hx))
  exact trodVars_mk1 hg ht hvar' (fuel := fuel') (by rw [hcs]; exact hd')

set_option maxRecDepth 100000 in
theorem table_lifted (os : Os) (started : os.Started) (H : Type) (enc : TypeId × Value → H) :
    ReturnsInHanded {} Ybad.checked os 3 .any (fun w args => (Rows.lawS2254BTableSpec.pre enc Ybad.prog Ybad.f3 [] false w args ∧ laidMetH Ybad.prog laidL w) ∧ sizedMet enc Ybad.prog Ybad.f3 (OpenSpec.ofChange Rows.lawS2254BTableSpec) false w args)
      (Rows.lawS2254BTableSpec.post enc Ybad.prog Ybad.f3 false true false false) := by
  refine returnsInHanded_of_change_and (C := Ybad.checked) (X := fun w _ => laidMetH Ybad.prog laidL w) (fun _ _ _ hh h => h.of_heap hh) own started (by kernel_rfl) Ybad.func3
    (ChangeSpec.witness_shaped (enc := enc) (C := Ybad.checked) (os := os) (X := fun w _ => laidMetH Ybad.prog laidL w) false (World.doorLaid Ybad.prog 34 os) #[.int .u8 0] 8 rfl (World.shaped_of_RefB (by kernel_rfl) (by kernel_rfl)) (by kernel_rfl) (by kernel_rfl) (by kernel_rfl) (door_met os _)) ?_
  intro W base args ds gs before hval0 hW _ _ hL _
  have hval : ∀ (j : Nat) t v, Ybad.f3.params[j]? = some t → args[j]? = some v → Value.okWide Ybad.prog W .any base t v := hval0
  have hW' := hW
  obtain ⟨p, q, hA0, hV0, rfl, hfz, hnd⟩ := hW
  have hA : DataW.TrodAll enc Ybad.prog W 0 (fun _ => true) true Ybad.f3.params.toList args.toList ds p := hA0
  have hV : DataW.TrodVars enc Ybad.prog W (fun _ => true) [tabName] gs q := hV0
  rw [Ybad.params3] at hA hval
  obtain ⟨v0, d0, rfl, rfl, h0⟩ := trodAll_one hA
  obtain ⟨x, rfl, rfl, rfl, wx⟩ := open_int Ybad.underlying5 (hval 0 5 v0 rfl rfl) h0
  clear hA0 hV0 hval0
  obtain ⟨k, rfl, hk⟩ := nat_of_u8 wx
  obtain ⟨bm, n, hT⟩ := tab_of_laid hL
  have hlt : ∀ x ∈ q, x.block < W.heap.size := fun x hx => by simpa using hW'.lt x (by simpa using hx)
  have hgs : ∃ g1, gs = [g1] := by
    obtain ⟨_, _, _, _, d, _, rfl, _⟩ := trodVars_one hV
    exact ⟨d, rfl⟩
  obtain ⟨g1, rfl⟩ := hgs
  refine (table_any k hk bm n W hT).mono fun e W' ⟨he, hb⟩ => ?_
  subst he
  exact ⟨_, rfl, _, _, _, [], [], q, hW', trodAll_mk1 (shut_bool Ybad.underlying4 _), trodAll_mk1 (shut_int Ybad.underlying5 wx), vars_kept hV hlt hb, hb.frame _, fun h => by cases h⟩

/-- THE ROW. -/
theorem table_holds : Rows.LawS2254BTableSaid :=
  OpenClaim.holds_of_wide 3 Ybad.f3 rfl rfl rfl rfl rfl rfl rfl ⟨rfl, rfl, rfl, rfl, rfl⟩ rfl rfl rfl rfl rfl (by kernel_rfl) Ybad.func3 (by kernel_rfl)
    (of_decide_eq_true (by kernel_rfl)) (by unfold Func.isWrapper; first | (rw [if_pos (by decide +kernel)]; kernel_rfl) | (rw [if_neg (by decide +kernel)]; exact ⟨rfl, rfl⟩))
    (fun os started H enc _ => table_lifted os started H enc)

/-- THE TIED CARD. -/
theorem table_card : Rows.LawS2254BTableCardSaid :=
  Claim7.holds_tied_plain_at .later [] [.mapped] true Rows.lawS2254BTableCard.stood.harness false
    table_holds (fun _ h => by cases h) (by kernel_rfl) (fun _ h => by cases h) lawS2254BTable_row_tie rfl ⟨rfl, rfl⟩ (by kernel_rfl) rfl
    (fun f fn hf hfn => by
      obtain rfl : f = 3 := Option.some.inj ((show Ybad.prog.funcNamed Rows.lawS2254BTableRow.func = some 3 by kernel_rfl).symm.trans hf) |>.symm
      obtain rfl : fn = Ybad.f3 := (Option.some.inj (Ybad.func3.symm.trans hfn)).symm
      exact ⟨by kernel_rfl, fun j t ht => by
        rw [Ybad.params3] at ht
        have hm : t ∈ [5] := by simpa using Array.mem_of_getElem? ht
        have hall : ([5].all fun u => !Ybad.prog.wantsStandIn u) = true := by kernel_rfl
        exact (show Ybad.prog.wantsStandIn t = false by simpa using List.all_eq_true.1 hall t hm)⟩)
    (by kernel_rfl)

set_option maxRecDepth 100000 in
theorem inverse_lifted (os : Os) (started : os.Started) (H : Type) (enc : TypeId × Value → H) :
    ReturnsInHanded {} Ybad.checked os 4 .any (fun w args => (Rows.lawS2254BInverseSpec.pre enc Ybad.prog Ybad.f4 [] false w args ∧ laidMetH Ybad.prog laidL w) ∧ sizedMet enc Ybad.prog Ybad.f4 (OpenSpec.ofChange Rows.lawS2254BInverseSpec) false w args)
      (Rows.lawS2254BInverseSpec.post enc Ybad.prog Ybad.f4 false true false false) := by
  refine returnsInHanded_of_change_and (C := Ybad.checked) (X := fun w _ => laidMetH Ybad.prog laidL w) (fun _ _ _ hh h => h.of_heap hh) own started (by kernel_rfl) Ybad.func4
    (ChangeSpec.witness_shaped (enc := enc) (C := Ybad.checked) (os := os) (X := fun w _ => laidMetH Ybad.prog laidL w) false (World.doorLaid Ybad.prog 34 os) #[.int .u8 0] 8 rfl (World.shaped_of_RefB (by kernel_rfl) (by kernel_rfl)) (by kernel_rfl) (by kernel_rfl) (by kernel_rfl) (door_met os _)) ?_
  intro W base args ds gs before hval0 hW _ _ hL _
  have hval : ∀ (j : Nat) t v, Ybad.f4.params[j]? = some t → args[j]? = some v → Value.okWide Ybad.prog W .any base t v := hval0
  have hW' := hW
  obtain ⟨p, q, hA0, hV0, rfl, hfz, hnd⟩ := hW
  have hA : DataW.TrodAll enc Ybad.prog W 0 (fun _ => true) true Ybad.f4.params.toList args.toList ds p := hA0
  have hV : DataW.TrodVars enc Ybad.prog W (fun _ => true) [tabName] gs q := hV0
  rw [Ybad.params4] at hA hval
  obtain ⟨v0, d0, rfl, rfl, h0⟩ := trodAll_one hA
  obtain ⟨x, rfl, rfl, rfl, wx⟩ := open_int Ybad.underlying5 (hval 0 5 v0 rfl rfl) h0
  clear hA0 hV0 hval0
  obtain ⟨k, rfl, hk⟩ := nat_of_u8 wx
  obtain ⟨bm, n, hT⟩ := tab_of_laid hL
  have hlt : ∀ x ∈ q, x.block < W.heap.size := fun x hx => by simpa using hW'.lt x (by simpa using hx)
  have hgs : ∃ g1, gs = [g1] := by
    obtain ⟨_, _, _, _, d, _, rfl, _⟩ := trodVars_one hV
    exact ⟨d, rfl⟩
  obtain ⟨g1, rfl⟩ := hgs
  refine (inverse_any k hk bm n W hT).mono fun e W' ⟨he, hb⟩ => ?_
  subst he
  exact ⟨_, rfl, _, _, _, [], [], q, hW', trodAll_mk1 (shut_bool Ybad.underlying4 _), trodAll_mk1 (shut_int Ybad.underlying5 wx), vars_kept hV hlt hb, hb.frame _, fun h => by cases h⟩

/-- THE ROW. -/
theorem inverse_holds : Rows.LawS2254BInverseSaid :=
  OpenClaim.holds_of_wide 4 Ybad.f4 rfl rfl rfl rfl rfl rfl rfl ⟨rfl, rfl, rfl, rfl, rfl⟩ rfl rfl rfl rfl rfl (by kernel_rfl) Ybad.func4 (by kernel_rfl)
    (of_decide_eq_true (by kernel_rfl)) (by unfold Func.isWrapper; first | (rw [if_pos (by decide +kernel)]; kernel_rfl) | (rw [if_neg (by decide +kernel)]; exact ⟨rfl, rfl⟩))
    (fun os started H enc _ => inverse_lifted os started H enc)

/-- THE TIED CARD. -/
theorem inverse_card : Rows.LawS2254BInverseCardSaid :=
  Claim7.holds_tied_plain_at .later [] [.mapped] true Rows.lawS2254BInverseCard.stood.harness false
    inverse_holds (fun _ h => by cases h) (by kernel_rfl) (fun _ h => by cases h) lawS2254BInverse_row_tie rfl ⟨rfl, rfl⟩ (by kernel_rfl) rfl
    (fun f fn hf hfn => by
      obtain rfl : f = 4 := Option.some.inj ((show Ybad.prog.funcNamed Rows.lawS2254BInverseRow.func = some 4 by kernel_rfl).symm.trans hf) |>.symm
      obtain rfl : fn = Ybad.f4 := (Option.some.inj (Ybad.func4.symm.trans hfn)).symm
      exact ⟨by kernel_rfl, fun j t ht => by
        rw [Ybad.params4] at ht
        have hm : t ∈ [5] := by simpa using Array.mem_of_getElem? ht
        have hall : ([5].all fun u => !Ybad.prog.wantsStandIn u) = true := by kernel_rfl
        exact (show Ybad.prog.wantsStandIn t = false by simpa using List.all_eq_true.1 hall t hm)⟩)
    (by kernel_rfl)

end Go.Proofs.YbulkatqsDoor
