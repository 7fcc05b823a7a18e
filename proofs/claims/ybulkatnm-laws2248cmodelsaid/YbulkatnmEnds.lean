/-
  LawS2248CModel: the walk at a slice of no element, and at one of more than 1024.
-/
import Derived.Test.YbulkatnmLaw
namespace Go.Proofs.Ybulkatnm
open Go.RowKit

set_option maxRecDepth 100000 in
set_option maxHeartbeats 400000 in
theorem law_long (a : Option Addr) (len cap : Nat) (bs base rd ts sr sw : Int) (w : World) (hlen : 1024 < len) (hm : len ≤ 9223372036854775807) :
    Calls Yba.prog 3 #[.int .u64 bs, .int .i64 base, .int .u64 rd, .slice a len cap, .int .u64 ts, .int .u64 sr, .int .u64 sw] w fun e w' => e = .returned (.bool true) ∧ Below w.heap.size w w' := by
  have h1 : (1024 : Int) < (len : Int) := by omega
  go_enter Yba.func3, Yba.ntmps3
  go_wp2_with fail
  go_ret
  exact ⟨rfl, Below.refl _ _⟩

set_option maxRecDepth 100000 in
set_option maxHeartbeats 1000000 in
theorem law_empty (a : Option Addr) (cap : Nat) (bs base rd ts sr sw : Int) (w : World) :
    Calls Yba.prog 3 #[.int .u64 bs, .int .i64 base, .int .u64 rd, .slice a 0 cap, .int .u64 ts, .int .u64 sr, .int .u64 sw] w fun e w' => e = .returned (.bool true) ∧ Below w.heap.size w w' := by
  go_enter Yba.func3, Yba.ntmps3
  go_wp2_with fail
  go_loop [15, 16] (fun t i => t = .pointer none ∧ i = .int .i64 (-1)) (fun _ _ => 0)
  case atStart => exact ⟨rfl, rfl⟩
  case round =>
    obtain ⟨rfl, rfl⟩ := hrel
    go_wp2_with fail
    obtain ⟨L, hL⟩ : ∃ L : List Pl.Ent, L = [] := ⟨_, rfl⟩
    obtain ⟨W, hW, hI, hO, hR, hch', hBW⟩ := laid_three w rd bs base ts none L (by rw [hL]; rfl)
    rw [hW]
    refine (read_any w.heap.size w.heap.size (w.heap.size + 1) (w.heap.size + 1 + 1) ts rd bs base sr sw none L W (Nat.le_refl _) (by omega) (by omega) hI hO hR hch').mono ?_
    rintro e' w2 ⟨rfl, hI2, hR2, hB2, _⟩
    have hBw : Below w.heap.size w w2 := hBW.trans hB2
    have hn2 : w.heap.size + 1 + 1 < w2.heap.size := (Array.getElem?_eq_some_iff.1 hR2).1
    have HS : Hid (Pl.scan ts L = (none, [])) := by rw [hL]; rfl
    clear hW hI hO hR hch' hBW hB2 hL
    have hnw : w.heap.size ≤ w.heap.size := Nat.le_refl _
    have hn0 : w.heap.size < w2.heap.size := by omega
    have hpp := run_neq_same none
    go_wp2_with fail
    go_loop [25, 27, 28] (fun f d i => i = .int .i64 0 ∧ f = .int .u64 0 ∧ d = .bool false) (fun _ _ _ => 0)
    case atStart => exact ⟨rfl, rfl, rfl⟩
    case round =>
      obtain ⟨rfl, rfl, rfl⟩ := hrel
      go_wp2_with fail
      go_loop [28] (fun i => i = .int .i64 0) (fun _ => 0)
      case atStart => rfl
      case round =>
        subst hrel
        by_cases hy : ts < bs
        · -- a younger write is kept in place
          have HR : Pl.res ts bs base L = ⟨0, 0, 0, 0, bs, false⟩ := Pl.res_young HS.out rfl hy
          have hrd : Pl.readOf ts bs base rd sr L = rd := by unfold Pl.readOf; rw [HR]; rfl
          rw [HR] at hR2
          rw [hrd] at hI2
          obtain ⟨r0, r1, r2, r3, r4, r5, _⟩ := hR2.cells
          obtain ⟨i0, i1, i2, i3, _⟩ := hI2.cells
          clear HR hrd hR2 hI2
          go_wp2_with fail
          go_ret
          exact ⟨rfl, by first | exact hBw.alloc hBw.size _ | exact (hBw.alloc hBw.size _).alloc (by have := hBw.size; simp; omega) _⟩
        · -- the write kept in place
          have HR : Pl.res ts bs base L = ⟨1, 0, 0, base, bs, true⟩ := Pl.res_base HS.out rfl hy
          have hrd : Pl.readOf ts bs base rd sr L = Pl.top sr ts := by unfold Pl.readOf; rw [HR]; rfl
          rw [HR] at hR2
          rw [hrd] at hI2
          by_cases hrt : sr < ts
          · have et : Pl.top sr ts = ts := by simp [Pl.top, hrt]
            rw [et] at hI2
            clear et
            obtain ⟨r0, r1, r2, r3, r4, r5, _⟩ := hR2.cells
            obtain ⟨i0, i1, i2, i3, _⟩ := hI2.cells
            clear HR hrd hR2 hI2
            go_wp2_with fail
            go_ret
            exact ⟨rfl, by first | exact hBw.alloc hBw.size _ | exact (hBw.alloc hBw.size _).alloc (by have := hBw.size; simp; omega) _⟩
          · have et : Pl.top sr ts = sr := by simp [Pl.top, hrt]
            rw [et] at hI2
            clear et
            obtain ⟨r0, r1, r2, r3, r4, r5, _⟩ := hR2.cells
            obtain ⟨i0, i1, i2, i3, _⟩ := hI2.cells
            clear HR hrd hR2 hI2
            go_wp2_with fail
            go_ret
            exact ⟨rfl, by first | exact hBw.alloc hBw.size _ | exact (hBw.alloc hBw.size _).alloc (by have := hBw.size; simp; omega) _⟩

end Go.Proofs.Ybulkatnm
