/-
  (*Item).readBeneath.
-/
import Derived.Test.YbulkatnmSlot
import Derived.Deep.RegionWith
import Derived.RegionTactic
import Derived.BigRegion
namespace Go.Proofs.Ybulkatnm
open Go.RowKit

set_option maxHeartbeats 400000 in
theorem stamp_any (t s : Int) (w : World) :
    Calls Yba.prog 27 #[.agg #[.int .u64 t, .int .i32 s]] w fun e w' => e = .returned (.int .u64 t) ∧ Below w.heap.size w w' := by
  go_enter Yba.func27, Yba.ntmps27
  go_wp2
  go_ret
  exact ⟨rfl, (Below.refl _ _).alloc (Nat.le_refl _) _⟩

/-- The item, the result, the stamps, the operation, each a block of its own. -/
def ItemAt (W : World) (b : Nat) (rd bs base : Int) (above : Option Addr) : Prop := W.heap[b]? = some (.cells #[.int .u64 rd, .int .u64 bs, .int .i64 base, .pointer above] 34 (0, 0))
def ResAt (W : World) (b : Nat) (out onT onS : Int) (val src : Int) : Prop := W.heap[b]? = some (.cells #[.int .i64 out, .int .u64 onT, .int .i32 onS, .bool false, .int .i64 val, .int .u64 src] 40 (0, 0))
def StampsAt (W : World) (b : Nat) (sr sw : Int) : Prop := W.heap[b]? = some (.cells #[.int .u64 sr, .int .u64 sw] 43 (0, 0))
def OpAt (W : World) (b : Nat) (ts : Int) : Prop := W.heap[b]? = some (.cells #[.int .u64 ts, .int .i32 0, .bool false, .int .i64 0, .int .i64 0, .bool false, .bool false, .bool false, .int .u64 0, .int .i32 0] 37 (0, 0))

/-- A block lies on through a step that turns nothing old. -/
theorem keep {W W' : World} {b : Nat} {o : Obj} (hb : Below W.heap.size W W') (h : W.heap[b]? = some o) : W'.heap[b]? = some o := (hb.block b (Array.getElem?_eq_some_iff.1 h).1).trans h

theorem setCell_block {W : World} {B o : Nat} {cs : Array Value} {t : TypeId} {fr : Nat × Nat} (v : Value) (h : W.heap[B]? = some (.cells cs t fr)) : (W.setCell ⟨B, o, none⟩ v).heap[B]? = some (.cells (cs.setIfInBounds o v) t fr) := by
  obtain ⟨hlt, hk⟩ := Array.getElem?_eq_some_iff.1 h
  show (W.heap.modify B _)[B]? = _
  rw [Array.getElem?_eq_getElem (by rw [Array.size_modify]; exact hlt), Array.getElem_modify_self, hk]
  rfl
theorem setCell_other {W : World} {B o k : Nat} (v : Value) (h : k ≠ B) : (W.setCell ⟨B, o, none⟩ v).heap[k]? = W.heap[k]? := Below.heap_setCell _ _ _ _ h

theorem ResAt.cells {W : World} {b : Nat} {out onT onS val src : Int} (h : ResAt W b out onT onS val src) :
    W.cell? ⟨b, 0, none⟩ = some (.int .i64 out) ∧ W.cell? ⟨b, 1, none⟩ = some (.int .u64 onT) ∧ W.cell? ⟨b, 2, none⟩ = some (.int .i32 onS) ∧ W.cell? ⟨b, 3, none⟩ = some (.bool false) ∧ W.cell? ⟨b, 4, none⟩ = some (.int .i64 val) ∧ W.cell? ⟨b, 5, none⟩ = some (.int .u64 src) ∧
      (∀ o, W.frozen? ⟨b, o, none⟩ = false) := by
  have h' : W.heap[b]? = _ := h
  simp [World.cell?, World.frozen?, h']
theorem ItemAt.cells {W : World} {b : Nat} {rd bs base : Int} {above : Option Addr} (h : ItemAt W b rd bs base above) :
    W.cell? ⟨b, 0, none⟩ = some (.int .u64 rd) ∧ W.cell? ⟨b, 1, none⟩ = some (.int .u64 bs) ∧ W.cell? ⟨b, 2, none⟩ = some (.int .i64 base) ∧ W.cell? ⟨b, 3, none⟩ = some (.pointer above) ∧ (∀ o, W.frozen? ⟨b, o, none⟩ = false) := by
  have h' : W.heap[b]? = _ := h
  simp [World.cell?, World.frozen?, h']
theorem StampsAt.cells {W : World} {b : Nat} {sr sw : Int} (h : StampsAt W b sr sw) :
    W.cell? ⟨b, 0, none⟩ = some (.int .u64 sr) ∧ W.cell? ⟨b, 1, none⟩ = some (.int .u64 sw) ∧ (∀ o, W.frozen? ⟨b, o, none⟩ = false) := by
  have h' : W.heap[b]? = _ := h
  simp [World.cell?, World.frozen?, h']
theorem OpAt.cells {W : World} {b : Nat} {ts : Int} (h : OpAt W b ts) : W.cell? ⟨b, 0, none⟩ = some (.int .u64 ts) ∧ W.cell? ⟨b, 1, none⟩ = some (.int .i32 0) := by
  have h' : W.heap[b]? = _ := h
  simp [World.cell?, h']

/-- Stores into the result and the item, told of the blocks. -/
theorem ResAt.set {W : World} {b : Nat} {out onT onS val src : Int} (h : ResAt W b out onT onS val src) (a : Int) : ResAt (W.setCell ⟨b, 0, none⟩ (.int .i64 a)) b a onT onS val src := by
  have := setCell_block (o := 0) (.int .i64 a) h
  unfold ResAt; simpa using this
theorem ResAt.setSrc {W : World} {b : Nat} {out onT onS val src : Int} (h : ResAt W b out onT onS val src) (a : Int) : ResAt (W.setCell ⟨b, 5, none⟩ (.int .u64 a)) b out onT onS val a := by
  have := setCell_block (o := 5) (.int .u64 a) h
  unfold ResAt; simpa using this
theorem ResAt.setVal {W : World} {b : Nat} {out onT onS val src : Int} (h : ResAt W b out onT onS val src) (a : Int) : ResAt (W.setCell ⟨b, 4, none⟩ (.int .i64 a)) b out onT onS a src := by
  have := setCell_block (o := 4) (.int .i64 a) h
  unfold ResAt; simpa using this
theorem ResAt.setOn {W : World} {b : Nat} {out onT onS val src : Int} (h : ResAt W b out onT onS val src) (t s : Int) : ResAt ((W.setCell ⟨b, 1, none⟩ (.int .u64 t)).setCell ⟨b, 2, none⟩ (.int .i32 s)) b out t s val src := by
  have := setCell_block (o := 2) (.int .i32 s) (setCell_block (o := 1) (.int .u64 t) h)
  unfold ResAt; simpa using this
theorem ItemAt.setRead {W : World} {b : Nat} {rd bs base : Int} {above : Option Addr} (h : ItemAt W b rd bs base above) (a : Int) : ItemAt (W.setCell ⟨b, 0, none⟩ (.int .u64 a)) b a bs base above := by
  have := setCell_block (o := 0) (.int .u64 a) h
  unfold ItemAt; simpa using this
theorem ItemAt.other {W : World} {b k : Nat} {o : Nat} {rd bs base : Int} {above : Option Addr} (h : ItemAt W b rd bs base above) (hne : b ≠ k) (v : Value) : ItemAt (W.setCell ⟨k, o, none⟩ v) b rd bs base above := (setCell_other v hne).trans h
theorem ResAt.other {W : World} {b k : Nat} {o : Nat} {out onT onS val src : Int} (h : ResAt W b out onT onS val src) (hne : b ≠ k) (v : Value) : ResAt (W.setCell ⟨k, o, none⟩ v) b out onT onS val src := (setCell_other v hne).trans h

/-- What readBeneath leaves. -/
def ReadPost (n₀ bi br : Nat) (w : World) (ts rd bs base sr : Int) (above : Option Addr) (es : List Pl.Ent) (e : Ending) (w' : World) : Prop :=
  e = .returned (.tuple #[]) ∧ ItemAt w' bi (Pl.readOf ts bs base rd sr es) bs base above ∧
  ResAt w' br (Pl.res ts bs base es).out (Pl.res ts bs base es).onT (Pl.res ts bs base es).onS (Pl.res ts bs base es).val (Pl.res ts bs base es).src ∧ Below n₀ w w' ∧ w.heap.size ≤ w'.heap.size

set_option maxRecDepth 100000 in
set_option maxHeartbeats 1000000 in
theorem read_any (n₀ bi bo br : Nat) (ts rd bs base sr sw : Int) (above : Option Addr) (es : List Pl.Ent) (w : World) (hn : n₀ ≤ bi) (hn2 : n₀ ≤ br) (hir : bi ≠ br)
    (hI : ItemAt w bi rd bs base above) (hO : OpAt w bo ts) (hR : ResAt w br 0 0 0 0 0) (hch : Chain n₀ w above es) :
    Calls Yba.prog 4 #[.pointer (some ⟨bi, 0, none⟩), .pointer (some ⟨bo, 0, none⟩), .agg #[.int .u64 sr, .int .u64 sw], .pointer (some ⟨br, 0, none⟩)] w (ReadPost n₀ bi br w ts rd bs base sr above es) := by
  have hib : bi < w.heap.size := (Array.getElem?_eq_some_iff.1 hI).1
  have hrb : br < w.heap.size := (Array.getElem?_eq_some_iff.1 hR).1
  obtain ⟨o0, o1⟩ := hO.cells
  have hm := method_ts ts 0
  have hB0 : Below w.heap.size w (w.alloc (.cells #[.int .u64 sr, .int .u64 sw] 43)) := (Below.refl _ _).alloc (Nat.le_refl _) _
  have hS0 : StampsAt (w.alloc (.cells #[.int .u64 sr, .int .u64 sw] 43)) w.heap.size sr sw := heap_alloc_new _ _
  have hob : bo < w.heap.size := (Array.getElem?_eq_some_iff.1 hO).1
  go_enter Yba.func4, Yba.ntmps4
  go_wp2_with (go_at_call 27; refine (stamp_any ts 0 _).mono ?_; rintro e w1 ⟨rfl, hb1⟩)
  -- the world behind the stamps' box and the method: everything old lies as it lay
  obtain ⟨W0, hW0⟩ : ∃ W0, w.alloc (.cells #[.int .u64 sr, .int .u64 sw] 43) = W0 := ⟨_, rfl⟩
  rw [hW0] at hb1 hB0 hS0
  have hB1 : Below w.heap.size w w1 := hB0.trans (hb1.mono hB0.size)
  have hI1 : ItemAt w1 bi rd bs base above := keep hB1 hI
  have hR1 : ResAt w1 br 0 0 0 0 0 := keep hB1 hR
  have hS1 : StampsAt w1 w.heap.size sr sw := keep hb1 hS0
  have hch1 : Chain n₀ w1 above es := hch.below (hB1.mono (by omega))
  have hsz1 : n₀ ≤ w1.heap.size := Nat.le_trans (Nat.le_trans hn (Nat.le_of_lt hib)) hB1.size
  clear hW0 hb1 hB0 hS0 o0 o1 hob hm hI hO hR hch
  go_wp2_with fail
  refine (slot_any n₀ bi ts above es w1 hsz1 (Nat.lt_of_lt_of_le hib hB1.size) hI1.cells.2.2.2.1 hch1).mono ?_
  rintro e w2 ⟨hB2, ⟨c, r, b, q, hsc, rfl, hbn, he⟩ | ⟨r, ba, q, hsc, rfl, hba, hcq, hcr⟩⟩
  · -- a committed write above the place: rejected
    have HS : Hid (Pl.res ts bs base es = ⟨0, 0, 0, 0, c.ts, false⟩) := Pl.res_hit hsc
    have he2 := keep hB2 he
    obtain ⟨e0, e1, _, _⟩ := ent_cells he2
    have hR2 : ResAt w2 br 0 0 0 0 0 := keep hB2 hR1
    have hI2 : ItemAt w2 bi rd bs base above := keep hB2 hI1
    clear hsc he he2
    go_wp2_with (go_at_call 6; refine (ts_any b c.ts c.s _ e0 e1).mono ?_; rintro e' w3 ⟨rfl, hb3⟩; have hR3 : ResAt w3 br 0 0 0 0 0 := keep hb3 hR2; obtain ⟨r0, r1, r2, r3, r4, r5, rf⟩ := hR3.cells)
    refine bodyPost_ret (results_none rfl _ _ _) rfl ?_
    have hb : Below n₀ w w3 := ((hB1.mono (by omega)).trans (hB2.mono hsz1)).trans (hb3.mono (Nat.le_trans hsz1 hB2.size))
    refine ⟨rfl, ?_, ?_, (hb.setCell (p := ⟨br, 0, none⟩) hn2 _).setCell (p := ⟨br, 5, none⟩) hn2 _, ?_⟩
    · unfold Pl.readOf; rw [HS.out]
      exact ((ItemAt.other (keep hb3 hI2) hir _).other hir _)
    · rw [HS.out]; exact (hR3.set 0).setSrc c.ts
    · have := hb.size; simpa [World.setCell] using this
  · -- the newest write below the place that has not aborted
    have hS2 : StampsAt w2 w.heap.size sr sw := keep hB2 hS1
    have hR2 : ResAt w2 br 0 0 0 0 0 := keep hB2 hR1
    have hI2 : ItemAt w2 bi rd bs base above := keep hB2 hI1
    have hcr2 : Chain n₀ w2 q r := hcr.below (hB2.mono hsz1)
    have hcq2 := (hB2.cell (p := ⟨ba, 3, none⟩) hba).trans hcq
    have hb2 : Below n₀ w w2 := (hB1.mono (by omega)).trans (hB2.mono hsz1)
    have hsz2 : n₀ ≤ w2.heap.size := Nat.le_trans hsz1 hB2.size
    have HSC : Hid (Pl.scan ts es = (none, r)) := hsc
    clear hsc hS1 hR1 hI1 hcr hcq hch1
    go_wp2_with fail
    go_loopg [11] r.length (fun k u wr => ∃ (q : Option Addr) (rest : List Pl.Ent), u = .pointer q ∧ Chain n₀ w2 q rest ∧ Pl.skip r = Pl.skip rest ∧ rest.length = k ∧ Below w2.heap.size w2 wr)
    case atStart => exact ⟨q, r, rfl, hcr2, rfl, rfl, Below.refl _ _⟩
    case round =>
      obtain ⟨q, rest, rfl, hcr, hsk, hk, hB⟩ := hrel
      cases rest with
      | nil =>
        obtain rfl : q = none := hcr
        have HSK : Hid (Pl.skip r = []) := by rw [hsk]; rfl
        have hRr : ResAt wr br 0 0 0 0 0 := keep hB hR2
        have hIr : ItemAt wr bi rd bs base above := keep hB hI2
        have hSr : StampsAt wr w.heap.size sr sw := keep hB hS2
        obtain ⟨r0, r1, r2, r3, r4, r5, rf⟩ := hRr.cells
        obtain ⟨i0, i1, i2, i3, fi⟩ := hIr.cells
        obtain ⟨s0, s1, fs⟩ := hSr.cells
        clear hsk hk
        have hbr : Below n₀ w wr := hb2.trans (hB.mono hsz2)
        by_cases hy : ts < bs
        · go_wp2_with fail
          refine bodyPost_ret (results_none rfl _ _ _) rfl ?_
          have HR : Pl.res ts bs base es = ⟨0, 0, 0, 0, bs, false⟩ := Pl.res_young HSC.out HSK.out hy
          refine ⟨rfl, ?_, ?_, (hbr.setCell (p := ⟨br, 0, none⟩) hn2 _).setCell (p := ⟨br, 5, none⟩) hn2 _, ?_⟩
          · unfold Pl.readOf; rw [HR]
            exact ((hIr.other hir _).other hir _)
          · rw [HR]; exact (hRr.set 0).setSrc bs
          · have := hbr.size; simpa [World.setCell] using this
        · go_wp2_with fail
          go_region
          generalize hW : ((wr.setCell ⟨br, 4, none⟩ (.int .i64 base)).setCell ⟨br, 5, none⟩ (.int .u64 bs)).drew = W4
          have hR4 : ResAt W4 br 0 0 0 base bs := by rw [← hW]; exact (hRr.setVal base).setSrc bs
          have hI4 : ItemAt W4 bi rd bs base above := by rw [← hW]; exact (hIr.other hir _).other hir _
          have hS4 : StampsAt W4 w.heap.size sr sw := by rw [← hW]; exact (setCell_other _ (by omega)).trans ((setCell_other _ (by omega)).trans hSr)
          have hb4 : Below n₀ w W4 := by rw [← hW]; exact ((hbr.setCell (p := ⟨br, 4, none⟩) hn2 _).setCell (p := ⟨br, 5, none⟩) hn2 _).drew
          clear hW r0 r1 r2 r3 r4 r5 rf i0 i1 i2 i3 fi s0 s1 fs hRr hIr hSr
          have HR : Hid (Pl.res ts bs base es = ⟨1, 0, 0, base, bs, true⟩) := Pl.res_base HSC.out HSK.out (by omega)
          obtain ⟨s0, s1, fs⟩ := hS4.cells
          go_wp2_with (go_at_call 9; refine (run_any w.heap.size sr ts _ s0 (fs 0)).mono ?_; rintro e w5 ⟨rfl, hw5⟩; have hR5 : ResAt w5 br 0 0 0 base bs := by { rw [hw5]; exact hR4.other (by omega) _ }; have hI5 : ItemAt w5 bi rd bs base above := by { rw [hw5]; exact hI4.other (by omega) _ }; have hs5 : w5.cell? ⟨w.heap.size, 0, none⟩ = some (.int .u64 (Pl.top sr ts)) := by { rw [hw5]; exact World.cell?_setCell_same' _ _ _ (by rw [s0]; rfl) }; have hb5 : Below n₀ w w5 := by { rw [hw5]; exact hb4.setCell (p := ⟨w.heap.size, 0, none⟩) (by show n₀ ≤ w.heap.size; omega) _ }; clear hw5; obtain ⟨r0, r1, r2, r3, r4, r5, rf⟩ := hR5.cells; obtain ⟨i0, i1, i2, i3, fi⟩ := hI5.cells)
          refine bodyPost_end (results_none rfl _ _ _) rfl ?_
          refine ⟨rfl, ?_, ?_, (hb5.setCell (p := ⟨bi, 0, none⟩) hn _).setCell (p := ⟨br, 0, none⟩) hn2 _, ?_⟩
          · unfold Pl.readOf; rw [HR.out]
            exact (hI5.setRead _).other hir _
          · rw [HR.out]; exact ResAt.set (hR5.other (Ne.symm hir) _) 1
          · have := hb5.size; simpa [World.setCell] using this
      | cons e rest =>
        obtain ⟨b, q', rfl, hbn, he, hcr'⟩ := hcr
        have hew := keep hB he
        obtain ⟨e0, e1, e2, e3⟩ := ent_cells hew
        by_cases hs : e.s = 2
        · have HSK : Hid (Pl.skip r = Pl.skip rest) := by rw [hsk, Pl.skip_up hs]; rfl
          have hs1 : (e.s == 2) = true := by simpa using hs
          clear hsk hs
          go_wp2_with (go_at_call 7; refine (aborted_any b e.ts e.s _ e0 e1).mono ?_; rintro e' w3 ⟨rfl, hb3⟩; have g3 := (hb3.cell (p := ⟨b, 3, none⟩) (Array.getElem?_eq_some_iff.1 hew).1).trans e3)
          go_roundg rest.length
          case measure => rw [← hk]; simp
          case rel => exact ⟨q', rest, rfl, hcr', HSK.out, rfl, hB.trans (hb3.mono hB.size)⟩
        · have HSK : Hid (Pl.skip r = e :: rest) := by rw [hsk, Pl.skip_low hs]; rfl
          have hs2 : (e.s == 2) = false := by simpa using hs
          have hRr : ResAt wr br 0 0 0 0 0 := keep hB hR2
          have hIr : ItemAt wr bi rd bs base above := keep hB hI2
          have hSr : StampsAt wr w.heap.size sr sw := keep hB hS2
          have hbr : Below n₀ w wr := hb2.trans (hB.mono hsz2)
          have hbw : b < wr.heap.size := (Array.getElem?_eq_some_iff.1 hew).1
          clear hsk hs hk
          by_cases hl : e.s = 1
          · have hs1 : (e.s == 1) = true := by simpa using hl
            have HR : Hid (Pl.res ts bs base es = ⟨1, 0, 0, e.val, e.ts, true⟩) := Pl.res_ran HSC.out HSK.out hl
            clear hl
            go_wp2_with (first
              | (go_at_call 7; refine (aborted_any b e.ts e.s _ e0 e1).mono ?_; rintro e' w3 ⟨rfl, hb3⟩; have hew3 := keep hb3 hew; obtain ⟨f0, f1, f2, f3⟩ := ent_cells hew3)
              | (go_at_call 8; refine (lasting_any b e.ts e.s _ f0 f1).mono ?_; rintro e' w4 ⟨rfl, hb4⟩; have hew4 := keep hb4 hew3; obtain ⟨p0, p1, p2, p3⟩ := ent_cells hew4; have hR4 : ResAt w4 br 0 0 0 0 0 := keep hb4 (keep hb3 hRr); obtain ⟨r0, r1, r2, r3, r4, r5, rf⟩ := hR4.cells))
            have hrw4 : br < w4.heap.size := (Array.getElem?_eq_some_iff.1 hR4).1
            have hbw4 : b < w4.heap.size := (Array.getElem?_eq_some_iff.1 hew4).1
            go_region_with (go_at_call 6; refine (ts_any b e.ts e.s w4.drew p0 p1).mono ?_; rintro e' w5 ⟨rfl, hb5⟩; have q2 : w5.cell? ⟨b, 2, none⟩ = some (.int .i64 e.val) := (hb5.cell (p := ⟨b, 2, none⟩) hbw4).trans p2; have hR5 : ResAt w5 br 0 0 0 0 0 := keep hb5 hR4; obtain ⟨r0, r1, r2, r3, r4, r5, rf⟩ := hR5.cells)
            all_goals
              have hBB : Below w2.heap.size w2 w5 := ((hB.trans (hb3.mono hB.size)).trans (hb4.mono (Nat.le_trans hB.size hb3.size))).drew.trans (hb5.mono (Nat.le_trans (Nat.le_trans hB.size hb3.size) hb4.size))
              generalize hW : (w5.setCell ⟨br, 4, none⟩ (.int .i64 e.val)).setCell ⟨br, 5, none⟩ (.int .u64 e.ts) = W6
              have hR6 : ResAt W6 br 0 0 0 e.val e.ts := by rw [← hW]; exact (hR5.setVal e.val).setSrc e.ts
              have hI6 : ItemAt W6 bi rd bs base above := by rw [← hW]; exact (ItemAt.other (keep hBB hI2) hir _).other hir _
              have hS6 : StampsAt W6 w.heap.size sr sw := by rw [← hW]; exact (setCell_other _ (by omega)).trans ((setCell_other _ (by omega)).trans (keep hBB hS2))
              have hb6 : Below n₀ w W6 := by rw [← hW]; exact ((hb2.trans (hBB.mono hsz2)).setCell (p := ⟨br, 4, none⟩) hn2 _).setCell (p := ⟨br, 5, none⟩) hn2 _
              clear hW r0 r1 r2 r3 r4 r5 rf q2 p0 p1 p2 p3 f0 f1 f2 f3 e0 e1 e2 e3
              obtain ⟨s0, s1, fs⟩ := hS6.cells
              go_wp2_with (go_at_call 9; refine (run_any w.heap.size sr ts _ s0 (fs 0)).mono ?_; rintro e w5 ⟨rfl, hw5⟩; have hR5 : ResAt w5 br 0 0 0 e.val e.ts := by { rw [hw5]; exact hR6.other (by omega) _ }; have hI5 : ItemAt w5 bi rd bs base above := by { rw [hw5]; exact hI6.other (by omega) _ }; have hs5 : w5.cell? ⟨w.heap.size, 0, none⟩ = some (.int .u64 (Pl.top sr ts)) := by { rw [hw5]; exact World.cell?_setCell_same' _ _ _ (by rw [s0]; rfl) }; have hb5 : Below n₀ w w5 := by { rw [hw5]; exact hb6.setCell (p := ⟨w.heap.size, 0, none⟩) (by show n₀ ≤ w.heap.size; omega) _ }; clear hw5; obtain ⟨r0, r1, r2, r3, r4, r5, rf⟩ := hR5.cells; obtain ⟨i0, i1, i2, i3, fi⟩ := hI5.cells)
              refine bodyPost_end (results_none rfl _ _ _) rfl ?_
              refine ⟨rfl, ?_, ?_, (hb5.setCell (p := ⟨bi, 0, none⟩) hn _).setCell (p := ⟨br, 0, none⟩) hn2 _, ?_⟩
              · unfold Pl.readOf; rw [HR.out]
                exact (hI5.setRead _).other hir _
              · rw [HR.out]; exact ResAt.set (hR5.other (Ne.symm hir) _) 1
              · have := hb5.size; simpa [World.setCell] using this
          · have hs1 : (e.s == 1) = false := by simpa using hl
            have HR : Hid (Pl.res ts bs base es = ⟨3, e.ts, e.s, 0, 0, false⟩) := Pl.res_held HSC.out HSK.out hl
            clear hl
            go_wp2_with (first
              | (go_at_call 7; refine (aborted_any b e.ts e.s _ e0 e1).mono ?_; rintro e' w3 ⟨rfl, hb3⟩; have hew3 := keep hb3 hew; obtain ⟨f0, f1, f2, f3⟩ := ent_cells hew3)
              | (go_at_call 8; refine (lasting_any b e.ts e.s _ f0 f1).mono ?_; rintro e' w4 ⟨rfl, hb4⟩; have hew4 := keep hb4 hew3; obtain ⟨p0, p1, p2, p3⟩ := ent_cells hew4; have hR4 : ResAt w4 br 0 0 0 0 0 := keep hb4 (keep hb3 hRr); obtain ⟨r0, r1, r2, r3, r4, r5, rf⟩ := hR4.cells))
            refine bodyPost_ret (results_none rfl _ _ _) rfl ?_
            have hb : Below n₀ w w4 := (hbr.trans (hb3.mono (Nat.le_trans hsz2 hB.size))).trans (hb4.mono (Nat.le_trans (Nat.le_trans hsz2 hB.size) hb3.size))
            refine ⟨rfl, ?_, ?_, ((hb.setCell (p := ⟨br, 0, none⟩) hn2 _).setCell (p := ⟨br, 1, none⟩) hn2 _).setCell (p := ⟨br, 2, none⟩) hn2 _, ?_⟩
            · unfold Pl.readOf; rw [HR.out]
              exact ((ItemAt.other (keep hb4 (keep hb3 hIr)) hir _).other hir _).other hir _
            · rw [HR.out]; exact (hR4.set 3).setOn e.ts e.s
            · have := hb.size; simpa [World.setCell] using this

end Go.Proofs.Ybulkatnm
