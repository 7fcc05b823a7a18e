/-
  (*Item).slot: the link at the place of ts, or the committed write above it.
-/
import Derived.Test.YbulkatnmLeaf
namespace Go.Proofs.Ybulkatnm
open Go.RowKit

/-- What slot hands back. -/
def SlotPost (n₀ : Nat) (w : World) (ts : Int) (es : List Pl.Ent) (e : Ending) (w' : World) : Prop :=
  Below w.heap.size w w' ∧
  ((∃ (c : Pl.Ent) (r : List Pl.Ent) (b : Nat) (q : Option Addr), Pl.scan ts es = (some c, r) ∧ e = .returned (.tuple #[.pointer none, .pointer (some ⟨b, 0, none⟩)]) ∧ b < n₀ ∧
      w.heap[b]? = some (.cells #[.int .u64 c.ts, .int .i32 c.s, .int .i64 c.val, .pointer q] 32 (0, 0))) ∨
   (∃ (r : List Pl.Ent) (ba : Nat) (q : Option Addr), Pl.scan ts es = (none, r) ∧ e = .returned (.tuple #[.pointer (some ⟨ba, 3, none⟩), .pointer none]) ∧ ba < w.heap.size ∧
      w.cell? ⟨ba, 3, none⟩ = some (.pointer q) ∧ Chain n₀ w q r))

set_option maxRecDepth 100000 in
set_option maxHeartbeats 1000000 in
theorem slot_any (n₀ bi : Nat) (ts : Int) (above : Option Addr) (es : List Pl.Ent) (w : World) (hn : n₀ ≤ w.heap.size) (hb : bi < w.heap.size) (hc : w.cell? ⟨bi, 3, none⟩ = some (.pointer above)) (hch : Chain n₀ w above es) :
    Calls Yba.prog 5 #[.pointer (some ⟨bi, 0, none⟩), .int .u64 ts] w (SlotPost n₀ w ts es) := by
  go_enter Yba.func5, Yba.ntmps5
  go_wp2
  go_loopg [6] es.length (fun k p wr => ∃ (ba : Nat) (q : Option Addr) (rest : List Pl.Ent), p = .pointer (some ⟨ba, 3, none⟩) ∧ w.cell? ⟨ba, 3, none⟩ = some (.pointer q) ∧ ba < w.heap.size ∧ Chain n₀ w q rest ∧
    Pl.scan ts es = Pl.scan ts rest ∧ rest.length = k ∧ Below w.heap.size w wr)
  case atStart => exact ⟨bi, above, es, rfl, hc, hb, hch, rfl, rfl, Below.refl _ _⟩
  case round =>
    obtain ⟨ba, q, rest, rfl, hcq, hba, hcr, hsc, hk, hB⟩ := hrel
    have c := (hB.cell (p := ⟨ba, 3, none⟩) hba).trans hcq
    cases rest with
    | nil =>
      obtain rfl : q = none := hcr
      have HS : Hid (Pl.scan ts es = (none, [])) := by rw [hsc]; rfl
      clear hsc hk
      go_wp2
      go_ret2
      exact ⟨hB, .inr ⟨_, ba, none, HS.out, rfl, hba, hcq, rfl⟩⟩
    | cons e rest =>
      have hcr0 := hcr
      obtain ⟨b, q', rfl, hbn, he, hcr'⟩ := hcr
      have hew := (hB.block b (by omega)).trans he
      obtain ⟨e0, e1, e2, e3⟩ := ent_cells hew
      have w3 := (ent_cells he).2.2.2
      have hbaw : ba < wr.heap.size := Nat.lt_of_lt_of_le hba hB.size
      have hbw : b < wr.heap.size := Nat.lt_of_lt_of_le (Nat.lt_of_lt_of_le hbn hn) hB.size
      by_cases hlt : ts < e.ts
      · by_cases hs : e.s = 1
        · have HS : Hid (Pl.scan ts es = (some e, e :: rest)) := by rw [hsc, Pl.scan_hit hlt hs]; rfl
          have hs1 : (e.s == 1) = true := by simpa using hs
          clear hsc hk hs
          go_wp2_with (first
            | (go_at_call 6; refine (ts_any b e.ts e.s _ e0 e1).mono ?_; rintro e' w1 ⟨rfl, hb1⟩; have c1 := (hb1.cell (p := ⟨ba, 3, none⟩) hbaw).trans c; have f0 := (hb1.cell (p := ⟨b, 0, none⟩) hbw).trans e0; have f1 := (hb1.cell (p := ⟨b, 1, none⟩) hbw).trans e1)
            | (go_at_call 8; refine (lasting_any b e.ts e.s _ f0 f1).mono ?_; rintro e' w2 ⟨rfl, hb2⟩; have c2 := (hb2.cell (p := ⟨ba, 3, none⟩) (Nat.lt_of_lt_of_le hbaw hb1.size)).trans c1))
          go_quiet (fail)
          go_wp2
          go_ret2
          refine ⟨?_, .inl ⟨e, _, b, q', HS.out, rfl, hbn, he⟩⟩
          exact below_drewN ((hB.trans (hb1.mono hB.size)).trans (hb2.mono (Nat.le_trans hB.size hb1.size))) _
        · have HS : Hid (Pl.scan ts es = Pl.scan ts rest) := by rw [hsc, Pl.scan_up hlt hs]; rfl
          have hs1 : (e.s == 1) = false := by simpa using hs
          clear hsc hs
          go_wp2_with (first
            | (go_at_call 6; refine (ts_any b e.ts e.s _ e0 e1).mono ?_; rintro e' w1 ⟨rfl, hb1⟩; have c1 := (hb1.cell (p := ⟨ba, 3, none⟩) hbaw).trans c; have f0 := (hb1.cell (p := ⟨b, 0, none⟩) hbw).trans e0; have f1 := (hb1.cell (p := ⟨b, 1, none⟩) hbw).trans e1)
            | (go_at_call 8; refine (lasting_any b e.ts e.s _ f0 f1).mono ?_; rintro e' w2 ⟨rfl, hb2⟩; have c2 := (hb2.cell (p := ⟨ba, 3, none⟩) (Nat.lt_of_lt_of_le hbaw hb1.size)).trans c1))
          go_roundg rest.length
          case measure => rw [← hk]; simp
          case rel => exact ⟨b, q', rest, rfl, w3, by omega, hcr', HS.out, rfl, (hB.trans (hb1.mono hB.size)).trans (hb2.mono (Nat.le_trans hB.size hb1.size))⟩
      · have HS : Hid (Pl.scan ts es = (none, e :: rest)) := by rw [hsc, Pl.scan_low hlt]; rfl
        clear hsc hk
        go_wp2_with (go_at_call 6; refine (ts_any b e.ts e.s _ e0 e1).mono ?_; rintro e' w1 ⟨rfl, hb1⟩)
        go_ret2
        exact ⟨hB.trans (hb1.mono hB.size), .inr ⟨_, ba, _, HS.out, rfl, hba, hcq, hcr0⟩⟩
end Go.Proofs.Ybulkatnm
