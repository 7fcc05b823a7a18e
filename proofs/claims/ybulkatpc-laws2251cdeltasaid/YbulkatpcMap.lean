/-
  A map of one entry, keyed by Element (a struct of one string): what its insertion, its look-up and its length run to.
-/
import Derived.Test.YbulkatpcRows
import Derived.WalkKit
import Derived.WalkSpells
import Derived.WalkLawsBesides
namespace Go.Proofs.Ybulkatpc
open Go.RowKit

theorem check34 (b : Bool) (s : ByteArray) (w : World) : (Instr.checkKey b 10000 34 (.agg #[.string s])).run Yba.prog w = .ok () w := by cases b <;> kernel_rfl
theorem held34 : Yba.prog.stoodInHeld 34 = false := by kernel_rfl
theorem part34 (s : ByteArray) (w : World) : (part 9 #[.string s] 0).run Yba.prog w = .ok (.string s) w := by kernel_rfl
theorem fields34 : (Yba.prog.fieldsOf 34).toList = [{ name := "text", type := 9, offset := 0, embedded := false, tag := "", pkgPath := (((Yba.prog.fieldsOf 34)[0]?).map (·.pkgPath)).getD "", byteOffset := 0 }] := by kernel_rfl

theorem equal34 (s t : ByteArray) (w : World) : (Op.equal 34 (.agg #[.string t]) (.agg #[.string s])).run Yba.prog w = .ok (t.toList == s.toList) w := by
  show (Op.equalIn (9999 + 1) 34 (.agg #[.string t]) (.agg #[.string s])).run Yba.prog w = _
  rw [run_equalIn_struct w 9999 34 _ _ (by kernel_rfl) held34, fields34]
  simp only [Op.eqFields, Sem.run_bind, Sem.run_ite, part34, Result.andThen_ok, run_equalIn_string w 9998 9 t s Yba.underlying9]
  cases t.toList == s.toList <;> simp

/-- The map's one entry. -/
def entry (s : ByteArray) (n : Int) : MapEntry := { key := .agg #[.string s], val := .int .u64 n, born := 0 }

theorem find_none (t : ByteArray) (w : World) : (Instr.findKey 34 (.agg #[.string t]) []).run Yba.prog w = .ok none w := by
  simp [Instr.findKey, run_underlying Yba.underlying34, Instr.findNow]
theorem find_one (s t : ByteArray) (n : Int) (w : World) : (Instr.findKey 34 (.agg #[.string t]) [entry s n]).run Yba.prog w = .ok (if t.toList == s.toList then some (0, .int .u64 n) else none) w := by
  simp only [Instr.findKey, Sem.run_bind, run_underlying Yba.underlying34, Result.andThen_ok, Instr.findNow, Instr.sameNow, entry, Instr.findAsking, equal34]
  cases t.toList == s.toList <;> simp

theorem put_alloc (X : World) (o o' : Obj) : ({ X.alloc o with heap := (X.alloc o).heap.setIfInBounds X.heap.size o' } : World) = X.alloc o' := by
  have h : (X.heap.push o).setIfInBounds X.heap.size o' = X.heap.push o' := by
    apply Array.ext
    · simp
    · intro j h1 h2
      by_cases hj : j = X.heap.size
      · subst hj; simp
      · have hlt : j < X.heap.size := by simp at h2; omega
        rw [Array.getElem_setIfInBounds_ne (by simp; omega) (by omega), Array.getElem_push_lt hlt, Array.getElem_push_lt hlt]
  show ({ X with heap := (X.heap.push o).setIfInBounds X.heap.size o' } : World) = { X with heap := X.heap.push o' }
  rw [h]

theorem run_insert (s : ByteArray) (n : Int) (X : World) : (Instr.mapUpdate 43 (.map (some X.heap.size)) (.agg #[.string s]) (.int .u64 n)).run Yba.prog (X.alloc (.map #[] 0)) = .ok () (X.alloc (.map #[entry s n] 1)) := by
  have hn := heap_alloc_new X (.map #[] 0)
  have hg : (getObj X.heap.size).run Yba.prog (X.alloc (.map #[] 0)) = .ok (.map #[] 0) (X.alloc (.map #[] 0)) := MapKept.run_getObj_map hn
  have hs : (setObj X.heap.size (.map #[entry s n] 1)).run Yba.prog (X.alloc (.map #[] 0)) = .ok () (X.alloc (.map #[entry s n] 1)) := by
    simp only [setObj, Sem.run, hn]
    rw [put_alloc]
  simp only [Instr.mapUpdate, Sem.run_bind, run_underlying Yba.underlying43, Result.andThen_ok, hg, check34, find_none]
  exact hs

theorem run_look_hit (s : ByteArray) (n : Int) (b : Nat) (W : World) (h : W.heap[b]? = some (.map #[entry s n] 1)) :
    (Instr.lookup 43 (.map (some b)) (.agg #[.string s]) true).run Yba.prog W = .ok (.tuple #[.int .u64 n, .bool true]) W := by
  have hg := MapKept.run_getObj_map (P := Yba.prog) h
  have hf := find_one s s n W
  simp only [beq_self_eq_true, if_true] at hf
  simp [Instr.lookup, run_underlying Yba.underlying43, hg, check34, hf, Result.andThen]

theorem run_look_miss (s t : ByteArray) (n : Int) (b : Nat) (W : World) (h : W.heap[b]? = some (.map #[entry s n] 1)) (hne : (t.toList == s.toList) = false) :
    (Instr.lookup 43 (.map (some b)) (.agg #[.string t]) true).run Yba.prog W = .ok (.tuple #[.int .u64 0, .bool false]) W := by
  have hg := MapKept.run_getObj_map (P := Yba.prog) h
  have hf := find_one s t n W
  rw [hne] at hf
  simp only [Bool.false_eq_true, if_false] at hf
  simp [Instr.lookup, run_underlying Yba.underlying43, hg, check34, hf, Result.andThen]

theorem run_size (s : ByteArray) (n : Int) (b : Nat) (ty : TypeId) (W : World) (h : W.heap[b]? = some (.map #[entry s n] 1)) :
    (Builtin.len_ #[43] ty #[.map (some b)]).run Yba.prog W = .ok (.int .i64 1) W := by
  simp [Builtin.len_, run_underlying Yba.underlying43, MapKept.run_getObj_map h, goInt, Result.andThen]

end Go.Proofs.Ybulkatpc
