/-
  LawS2248CModel: the walk.
-/
import Derived.Test.YbulkatnmRead
import Derived.LaidEql
namespace Go.Proofs.Ybulkatnm
open Go.RowKit

theorem Chain.mono {n₀ n₁ : Nat} (hn : n₀ ≤ n₁) {W : World} : ∀ {p : Option Addr} {es : List Pl.Ent}, Chain n₀ W p es → Chain n₁ W p es
  | _, [], hl => hl
  | _, _ :: _, ⟨b, q, hp, hb, hc, hr⟩ => ⟨b, q, hp, Nat.lt_of_lt_of_le hb hn, hc, Chain.mono hn hr⟩

/-- The law's slice in memory: three cells an element. -/
structure Ents (w : World) (b off len : Nat) (L : List Pl.Ent) : Prop where
  len : L.length = len
  lt : b < w.heap.size
  ts : ∀ j (h : j < L.length), w.cell? ⟨b, off + j * 3, none⟩ = some (.int .u64 L[j].ts)
  st : ∀ j (h : j < L.length), w.cell? ⟨b, off + j * 3 + 1, none⟩ = some (.int .u8 L[j].st)
  val : ∀ j (h : j < L.length), w.cell? ⟨b, off + j * 3 + 2, none⟩ = some (.int .i64 L[j].val)
  bd : ∀ e ∈ L, 0 ≤ e.st ∧ e.st ≤ 255

/-- Element j in a later world. -/
theorem Ents.at {w wr : World} {b off len : Nat} {L : List Pl.Ent} (hE : Ents w b off len L) (hB : Below w.heap.size w wr) {j : Nat} (hj : j < len) :
    ∃ e : Pl.Ent, L.drop j = e :: L.drop (j + 1) ∧ wr.cell? ⟨b, off + j * 3, none⟩ = some (.int .u64 e.ts) ∧ wr.cell? ⟨b, off + j * 3 + 1, none⟩ = some (.int .u8 e.st) ∧ wr.cell? ⟨b, off + j * 3 + 2, none⟩ = some (.int .i64 e.val) ∧ 0 ≤ e.st ∧ e.st ≤ 255 := by
  have hjl : j < L.length := by rw [hE.len]; exact hj
  refine ⟨L[j], List.drop_eq_getElem_cons hjl, ?_, ?_, ?_, hE.bd _ (List.getElem_mem hjl)⟩
  · exact (hB.cell (p := ⟨b, off + j * 3, none⟩) hE.lt).trans (hE.ts j hjl)
  · exact (hB.cell (p := ⟨b, off + j * 3 + 1, none⟩) hE.lt).trans (hE.st j hjl)
  · exact (hB.cell (p := ⟨b, off + j * 3 + 2, none⟩) hE.lt).trans (hE.val j hjl)

/-- One write more on top of the chain. -/
theorem Chain.push {w wr : World} {p : Option Addr} {es : List Pl.Ent} (e : Pl.Ent) (o : Obj) (hch : Chain wr.heap.size wr p es) (hB : Below w.heap.size w wr) :
    Chain ((wr.alloc o).alloc (.cells #[.int .u64 e.ts, .int .i32 e.s, .int .i64 e.val, .pointer p] 32)).heap.size ((wr.alloc o).alloc (.cells #[.int .u64 e.ts, .int .i32 e.s, .int .i64 e.val, .pointer p] 32)) (some ⟨wr.heap.size + 1, 0, none⟩) (e :: es) ∧
    Below w.heap.size w ((wr.alloc o).alloc (.cells #[.int .u64 e.ts, .int .i32 e.s, .int .i64 e.val, .pointer p] 32)) := by
  have hb2 : Below wr.heap.size wr ((wr.alloc o).alloc (.cells #[.int .u64 e.ts, .int .i32 e.s, .int .i64 e.val, .pointer p] 32)) := ((Below.refl _ wr).alloc (Nat.le_refl _) _).alloc (by simp) _
  refine ⟨⟨wr.heap.size + 1, p, rfl, by simp, ?_, (hch.below hb2).mono (by simp; omega)⟩, hB.trans (hb2.mono hB.size)⟩
  have := heap_alloc_new (wr.alloc o) (.cells #[.int .u64 e.ts, .int .i32 e.s, .int .i64 e.val, .pointer p] 32)
  rwa [World.size_alloc] at this

/-- The item, the operation and the result are laid on top of the chain. -/
theorem laid_three (wr : World) (rd bs base ts : Int) (p : Option Addr) (es : List Pl.Ent) (hch : Chain wr.heap.size wr p es) :
    ∃ W, ((wr.alloc (.cells #[.int .u64 rd, .int .u64 bs, .int .i64 base, .pointer p] 34)).alloc (.cells #[.int .u64 ts, .int .i32 0, .bool false, .int .i64 0, .int .i64 0, .bool false, .bool false, .bool false, .int .u64 0, .int .i32 0] 37)).alloc
        (.cells #[.int .i64 0, .int .u64 0, .int .i32 0, .bool false, .int .i64 0, .int .u64 0] 40) = W ∧
      ItemAt W wr.heap.size rd bs base p ∧ OpAt W (wr.heap.size + 1) ts ∧ ResAt W (wr.heap.size + 1 + 1) 0 0 0 0 0 ∧ Chain wr.heap.size W p es ∧ Below wr.heap.size wr W := by
  refine ⟨_, rfl, ?_, ?_, ?_, ?_, ?_⟩
  · have h1 := heap_alloc_new wr (.cells #[.int .u64 rd, .int .u64 bs, .int .i64 base, .pointer p] 34)
    exact (Below.heap_alloc _ _ _ (by simp; omega)).trans ((Below.heap_alloc _ _ _ (by simp)).trans h1)
  · have h1 := heap_alloc_new (wr.alloc (.cells #[.int .u64 rd, .int .u64 bs, .int .i64 base, .pointer p] 34)) (.cells #[.int .u64 ts, .int .i32 0, .bool false, .int .i64 0, .int .i64 0, .bool false, .bool false, .bool false, .int .u64 0, .int .i32 0] 37)
    rw [World.size_alloc] at h1
    exact (Below.heap_alloc _ _ _ (by simp)).trans h1
  · have h1 := heap_alloc_new ((wr.alloc (.cells #[.int .u64 rd, .int .u64 bs, .int .i64 base, .pointer p] 34)).alloc (.cells #[.int .u64 ts, .int .i32 0, .bool false, .int .i64 0, .int .i64 0, .bool false, .bool false, .bool false, .int .u64 0, .int .i32 0] 37))
      (.cells #[.int .i64 0, .int .u64 0, .int .i32 0, .bool false, .int .i64 0, .int .u64 0] 40)
    rw [World.size_alloc, World.size_alloc] at h1
    exact h1
  · exact hch.below ((((Below.refl _ wr).alloc (Nat.le_refl _) _).alloc (by simp) _).alloc (by simp; omega) _)
  · exact (((Below.refl _ wr).alloc (Nat.le_refl _) _).alloc (by simp) _).alloc (by simp; omega) _

/-- '!=' between a pointer and itself. -/
theorem info32 : (Yba.prog.info? 32).map (fun i => i.size) = some 4 := by kernel_rfl
theorem run_equalIn_same (d : Nat) (p : Option Addr) (w : World) : (Op.equalIn (d + 1) 24 (.pointer p) (.pointer p)).run Yba.prog w = .ok true w := by
  obtain ⟨j, hj, hz⟩ := Option.map_eq_some_iff.1 info32
  cases p with
  | none => simp [Op.equalIn, run_underlying Yba.underlying24]
  | some a => simp [Op.equalIn, run_underlying Yba.underlying24, sizeOf, typeInfo, hj, run_sameAddr_same]
theorem run_equal_same (p : Option Addr) (w : World) : (Op.equal 24 (.pointer p) (.pointer p)).run Yba.prog w = .ok true w := run_equalIn_same 9999 p w
theorem run_neq_same (p : Option Addr) (w : World) : (binOp .neq 24 (.pointer p) (.pointer p)).run Yba.prog w = .ok (.bool false) w := by
  simp only [binOp]
  simp [run_equal_same]

set_option maxRecDepth 100000 in
set_option maxHeartbeats 1000000 in
theorem law_any (b off len cap : Nat) (L : List Pl.Ent) (bs base rd ts sr sw : Int) (w : World) (hE : Ents w b off len L) (hlen : len ≤ 1024) (hpos : 0 < len) :
    Calls Yba.prog 3 #[.int .u64 bs, .int .i64 base, .int .u64 rd, .slice (some ⟨b, off, none⟩) len cap, .int .u64 ts, .int .u64 sr, .int .u64 sw] w fun e w' => e = .returned (.bool true) ∧ Below w.heap.size w w' := by
  go_enter Yba.func3, Yba.ntmps3
  go_wp2_with fail
  go_loopw [15, 16] (fun t i wr => ∃ (k : Nat) (p : Option Addr), k ≤ len ∧ i = .int .i64 ((k : Int) - 1) ∧ t = .pointer p ∧ Chain wr.heap.size wr p (L.drop k) ∧ Below w.heap.size w wr)
    (fun _ i _ => (intOf i + 1).toNat)
  case atStart => exact ⟨len, none, Nat.le_refl _, by go_num, rfl, by rw [List.drop_of_length_le (by rw [hE.len]; exact Nat.le_refl _)]; rfl, Below.refl _ _⟩
  case round =>
    obtain ⟨k, p, hk, rfl, rfl, hch, hB⟩ := hrel
    by_cases hk0 : 0 < k
    · obtain ⟨j, rfl⟩ : ∃ j, k = j + 1 := ⟨k - 1, by omega⟩
      obtain ⟨e, hd, c0, c1, c2, hs0, hs1⟩ := hE.at hB (show j < len by omega)
      have HD : Hid (L.drop j = e :: L.drop (j + 1)) := hd
      clear hd
      go_wp2_with fail
      obtain ⟨g1, g2⟩ := hch.push e (.cells #[.int .u64 e.ts, .int .u8 e.st, .int .i64 e.val] 26) hB
      go_roundw
      case rel => exact ⟨j, _, by omega, rfl, rfl, by rw [HD.out]; exact g1, g2⟩
      case measure => simp [intOf]
    · obtain rfl : k = 0 := by omega
      go_wp2_with fail
      obtain ⟨W, hW, hI, hO, hR, hch', hBW⟩ := laid_three wr rd bs base ts p L hch
      rw [hW]
      refine (read_any wr.heap.size wr.heap.size (wr.heap.size + 1) (wr.heap.size + 1 + 1) ts rd bs base sr sw p L W (Nat.le_refl _) (by omega) (by omega) hI hO hR hch').mono ?_
      rintro e' w2 ⟨rfl, hI2, hR2, hB2, _⟩
      have hBw : Below w.heap.size w w2 := (hB.trans (hBW.mono hB.size)).trans (hB2.mono hB.size)
      have hnw : w.heap.size ≤ wr.heap.size := hB.size
      have hn2 : wr.heap.size + 1 + 1 < w2.heap.size := (Array.getElem?_eq_some_iff.1 hR2).1
      clear hW hI hO hR hch' hBW hB2 hch hB hk hk0
      generalize wr.heap.size = n at *
      have hn0 : n < w2.heap.size := by omega
      have hbn : b < w2.heap.size := Nat.lt_of_lt_of_le hE.lt hBw.size
      have hn0' : n < w2.heap.size + 1 := by omega
      have hn2' : n + 1 + 1 < w2.heap.size + 1 := by omega
      have hpp := run_neq_same p
      go_wp2_with fail
      go_loop [25, 27, 28] (fun f d i => ∃ k : Nat, k ≤ len ∧ i = .int .i64 (k : Int) ∧ f = .int .u64 0 ∧ d = .bool false ∧ Pl.scan ts L = Pl.scan ts (L.drop k)) (fun _ _ i => len - (intOf i).toNat)
      case atStart => exact ⟨0, Nat.zero_le _, rfl, rfl, rfl, rfl⟩
      case round =>
        obtain ⟨k, hk, rfl, rfl, rfl, hsc⟩ := hrel
        by_cases hkl : k < len
        · obtain ⟨e, hd, c0, c1, c2, hs0, hs1⟩ := hE.at hBw hkl
          by_cases hlt : ts < e.ts
          · by_cases hs : e.s = 1
            · -- a committed write above: rejected
              have HR : Pl.res ts bs base L = ⟨0, 0, 0, 0, e.ts, false⟩ := Pl.res_hit (by rw [hsc, hd]; exact Pl.scan_hit hlt hs)
              have hrd : Pl.readOf ts bs base rd sr L = rd := by unfold Pl.readOf; rw [HR]; rfl
              rw [HR] at hR2
              rw [hrd] at hI2
              obtain ⟨r0, r1, r2, r3, r4, r5, _⟩ := hR2.cells
              obtain ⟨i0, i1, i2, i3, _⟩ := hI2.cells
              have hs' : (e.st % 3 == 1) = true := by unfold Pl.Ent.s at hs; simpa using hs
              clear hsc hd hs
              clear HR hrd hR2 hI2
              go_wp2_with fail
              go_ret
              exact ⟨rfl, by first | exact hBw.alloc hBw.size _ | exact (hBw.alloc hBw.size _).alloc (by have := hBw.size; simp; omega) _⟩
            · have HS : Hid (Pl.scan ts L = Pl.scan ts (L.drop (k + 1))) := by rw [hsc, hd, Pl.scan_up hlt hs]; rfl
              have hs' : (e.st % 3 == 1) = false := by unfold Pl.Ent.s at hs; simpa using hs
              clear hsc hd hs
              go_wp2_with fail
              go_round
              case rel => exact ⟨k + 1, by omega, by go_num, rfl, rfl, HS.out⟩
              case measure => simp [intOf]; omega
          · have HS : Hid (Pl.scan ts L = (none, L.drop k)) := by rw [hsc, hd, Pl.scan_low hlt]; rfl
            clear hsc hd
            go_wp2_with fail
            clear c0 c1 c2 hs0 hs1 hlt
            go_loop [28] (fun i => ∃ m : Nat, m ≤ len ∧ i = .int .i64 (m : Int) ∧ Pl.skip (L.drop k) = Pl.skip (L.drop m)) (fun i => len - (intOf i).toNat)
            case atStart => exact ⟨k, by omega, rfl, rfl⟩
            case round =>
              obtain ⟨m, hm, rfl, hsk⟩ := hrel
              by_cases hml : m < len
              · obtain ⟨e, hd, c0, c1, c2, hs0, hs1⟩ := hE.at hBw hml
                by_cases hs : e.s = 2
                · have HK : Hid (Pl.skip (L.drop k) = Pl.skip (L.drop (m + 1))) := by rw [hsk, hd, Pl.skip_up hs]; rfl
                  have hs' : (e.st % 3 == 2) = true := by unfold Pl.Ent.s at hs; simpa using hs
                  clear hsk hd hs
                  go_wp2_with fail
                  go_round
                  case rel => exact ⟨m + 1, by omega, by go_num, HK.out⟩
                  case measure => simp [intOf]; omega
                · have HK : Hid (Pl.skip (L.drop k) = e :: L.drop (m + 1)) := by rw [hsk, hd, Pl.skip_low hs]; rfl
                  have hs' : (e.st % 3 == 2) = false := by unfold Pl.Ent.s at hs; simpa using hs
                  clear hsk hd hs
                  by_cases hl : e.s = 1
                  · -- it has committed: its value
                    have HR : Pl.res ts bs base L = ⟨1, 0, 0, e.val, e.ts, true⟩ := Pl.res_ran HS.out HK.out hl
                    have hrd : Pl.readOf ts bs base rd sr L = Pl.top sr ts := by unfold Pl.readOf; rw [HR]; rfl
                    rw [HR] at hR2
                    rw [hrd] at hI2
                    by_cases hrt : sr < ts
                    · have et : Pl.top sr ts = ts := by simp [Pl.top, hrt]
                      rw [et] at hI2
                      clear et
                      obtain ⟨r0, r1, r2, r3, r4, r5, _⟩ := hR2.cells
                      obtain ⟨i0, i1, i2, i3, _⟩ := hI2.cells
                      have hl' : (e.st % 3 != 1) = false := by unfold Pl.Ent.s at hl; simpa using hl
                      clear hl
                      clear HR hrd hR2 hI2
                      go_wp2_with fail
                      go_ret
                      exact ⟨rfl, by first | exact hBw.alloc hBw.size _ | exact (hBw.alloc hBw.size _).alloc (by have := hBw.size; simp; omega) _⟩
                    · have et : Pl.top sr ts = sr := by simp [Pl.top, hrt]
                      rw [et] at hI2
                      clear et
                      obtain ⟨r0, r1, r2, r3, r4, r5, _⟩ := hR2.cells
                      obtain ⟨i0, i1, i2, i3, _⟩ := hI2.cells
                      have hl' : (e.st % 3 != 1) = false := by unfold Pl.Ent.s at hl; simpa using hl
                      clear hl
                      clear HR hrd hR2 hI2
                      go_wp2_with fail
                      go_ret
                      exact ⟨rfl, by first | exact hBw.alloc hBw.size _ | exact (hBw.alloc hBw.size _).alloc (by have := hBw.size; simp; omega) _⟩
                  · -- it has not ended: held
                    have HR : Pl.res ts bs base L = ⟨3, e.ts, e.st % 3, 0, 0, false⟩ := Pl.res_held HS.out HK.out hl
                    have hrd : Pl.readOf ts bs base rd sr L = rd := by unfold Pl.readOf; rw [HR]; rfl
                    rw [HR] at hR2
                    rw [hrd] at hI2
                    obtain ⟨r0, r1, r2, r3, r4, r5, _⟩ := hR2.cells
                    obtain ⟨i0, i1, i2, i3, _⟩ := hI2.cells
                    have hl' : (e.st % 3 != 1) = true := by unfold Pl.Ent.s at hl; simpa using hl
                    clear hl
                    clear HR hrd hR2 hI2
                    go_wp2_with fail
                    go_ret
                    exact ⟨rfl, by first | exact hBw.alloc hBw.size _ | exact (hBw.alloc hBw.size _).alloc (by have := hBw.size; simp; omega) _⟩
              · obtain rfl : m = len := by omega
                have HK : Hid (Pl.skip (L.drop k) = []) := by rw [hsk, List.drop_of_length_le (by rw [hE.len]; exact Nat.le_refl _)]; rfl
                clear hsk
                by_cases hy : ts < bs
                · -- a younger write is kept in place
                  have HR : Pl.res ts bs base L = ⟨0, 0, 0, 0, bs, false⟩ := Pl.res_young HS.out HK.out hy
                  have hrd : Pl.readOf ts bs base rd sr L = rd := by unfold Pl.readOf; rw [HR]; rfl
                  rw [HR] at hR2
                  rw [hrd] at hI2
                  obtain ⟨r0, r1, r2, r3, r4, r5, _⟩ := hR2.cells
                  obtain ⟨i0, i1, i2, i3, _⟩ := hI2.cells
                  clear HR hrd hR2 hI2
                  go_wp2_with fail
                  go_ret
                  exact ⟨rfl, by first | exact hBw.alloc hBw.size _ | exact (hBw.alloc hBw.size _).alloc (by have := hBw.size; simp; omega) _⟩
                · -- the write kept in place
                  have HR : Pl.res ts bs base L = ⟨1, 0, 0, base, bs, true⟩ := Pl.res_base HS.out HK.out hy
                  have hrd : Pl.readOf ts bs base rd sr L = Pl.top sr ts := by unfold Pl.readOf; rw [HR]; rfl
                  rw [HR] at hR2
                  rw [hrd] at hI2
                  by_cases hrt : sr < ts
                  · have et : Pl.top sr ts = ts := by simp [Pl.top, hrt]
                    rw [et] at hI2
                    clear et
                    obtain ⟨r0, r1, r2, r3, r4, r5, _⟩ := hR2.cells
                    obtain ⟨i0, i1, i2, i3, _⟩ := hI2.cells
                    clear HR hrd hR2 hI2
                    go_wp2_with fail
                    go_ret
                    exact ⟨rfl, by first | exact hBw.alloc hBw.size _ | exact (hBw.alloc hBw.size _).alloc (by have := hBw.size; simp; omega) _⟩
                  · have et : Pl.top sr ts = sr := by simp [Pl.top, hrt]
                    rw [et] at hI2
                    clear et
                    obtain ⟨r0, r1, r2, r3, r4, r5, _⟩ := hR2.cells
                    obtain ⟨i0, i1, i2, i3, _⟩ := hI2.cells
                    clear HR hrd hR2 hI2
                    go_wp2_with fail
                    go_ret
                    exact ⟨rfl, by first | exact hBw.alloc hBw.size _ | exact (hBw.alloc hBw.size _).alloc (by have := hBw.size; simp; omega) _⟩
        · obtain rfl : k = len := by omega
          have HS : Hid (Pl.scan ts L = (none, [])) := by rw [hsc, List.drop_of_length_le (by rw [hE.len]; exact Nat.le_refl _)]; rfl
          clear hsc
          go_wp2_with fail
          go_loop [28] (fun i => i = .int .i64 (k : Int)) (fun _ => 0)
          case atStart => rfl
          case round =>
            subst hrel
            by_cases hy : ts < bs
            · -- a younger write is kept in place
              have HR : Pl.res ts bs base L = ⟨0, 0, 0, 0, bs, false⟩ := Pl.res_young HS.out rfl hy
              have hrd : Pl.readOf ts bs base rd sr L = rd := by unfold Pl.readOf; rw [HR]; rfl
              rw [HR] at hR2
              rw [hrd] at hI2
              obtain ⟨r0, r1, r2, r3, r4, r5, _⟩ := hR2.cells
              obtain ⟨i0, i1, i2, i3, _⟩ := hI2.cells
              clear HR hrd hR2 hI2
              go_wp2_with fail
              go_ret
              exact ⟨rfl, by first | exact hBw.alloc hBw.size _ | exact (hBw.alloc hBw.size _).alloc (by have := hBw.size; simp; omega) _⟩
            · -- the write kept in place
              have HR : Pl.res ts bs base L = ⟨1, 0, 0, base, bs, true⟩ := Pl.res_base HS.out rfl hy
              have hrd : Pl.readOf ts bs base rd sr L = Pl.top sr ts := by unfold Pl.readOf; rw [HR]; rfl
              rw [HR] at hR2
              rw [hrd] at hI2
              by_cases hrt : sr < ts
              · have et : Pl.top sr ts = ts := by simp [Pl.top, hrt]
                rw [et] at hI2
                clear et
                obtain ⟨r0, r1, r2, r3, r4, r5, _⟩ := hR2.cells
                obtain ⟨i0, i1, i2, i3, _⟩ := hI2.cells
                clear HR hrd hR2 hI2
                go_wp2_with fail
                go_ret
                exact ⟨rfl, by first | exact hBw.alloc hBw.size _ | exact (hBw.alloc hBw.size _).alloc (by have := hBw.size; simp; omega) _⟩
              · have et : Pl.top sr ts = sr := by simp [Pl.top, hrt]
                rw [et] at hI2
                clear et
                obtain ⟨r0, r1, r2, r3, r4, r5, _⟩ := hR2.cells
                obtain ⟨i0, i1, i2, i3, _⟩ := hI2.cells
                clear HR hrd hR2 hI2
                go_wp2_with fail
                go_ret
                exact ⟨rfl, by first | exact hBw.alloc hBw.size _ | exact (hBw.alloc hBw.size _).alloc (by have := hBw.size; simp; omega) _⟩

end Go.Proofs.Ybulkatnm
