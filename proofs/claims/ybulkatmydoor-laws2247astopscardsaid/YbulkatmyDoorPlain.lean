/-
  OWN TEXT, NO PROGRAM IN SIGHT: the plain law behind 'relSet.all': a set of relations 0 .. 127 in two words lo, hi; taking the lowest bit away, again and again, hands over the set bits in ascending order.
-/
import Derived.Lib.TrailingZeros
namespace Go.Proofs.YbulkatmyDoor.Pl

/-- Is relation i in the set (lo, hi)? -/
def bit (lo hi i : Nat) : Bool := if i < 64 then lo.testBit i else hi.testBit (i - 64)

/-- The relations below m, ascending. -/
def upto (lo hi : Nat) : Nat → List Int
  | 0 => []
  | m + 1 => if bit lo hi m then upto lo hi m ++ [(m : Int)] else upto lo hi m

theorem upto_hit {lo hi m : Nat} (h : bit lo hi m = true) : upto lo hi (m + 1) = upto lo hi m ++ [(m : Int)] := by simp [upto, h]
theorem upto_miss {lo hi m : Nat} (h : bit lo hi m = false) : upto lo hi (m + 1) = upto lo hi m := by simp [upto, h]

theorem upto_len (lo hi m : Nat) : (upto lo hi m).length ≤ m := by
  induction m with
  | zero => simp [upto]
  | succ m ih =>
    unfold upto
    split
    · simp; omega
    · omega

/-- No bit from m up to k: nothing more comes. -/
theorem upto_gap {lo hi m : Nat} : ∀ d, (∀ i, m ≤ i → i < m + d → bit lo hi i = false) → upto lo hi (m + d) = upto lo hi m
  | 0, _ => rfl
  | d + 1, h => by
    rw [← Nat.add_assoc, upto_miss (h (m + d) (by omega) (by omega))]
    exact upto_gap d (fun i h1 h2 => h i h1 (by omega))

theorem upto_prefix (lo hi m : Nat) : ∀ d, upto lo hi m <+: upto lo hi (m + d)
  | 0 => List.prefix_refl _
  | d + 1 => by
    refine (upto_prefix lo hi m d).trans ?_
    rw [← Nat.add_assoc]
    cases hb : bit lo hi (m + d) with
    | true => rw [upto_hit hb]; exact List.prefix_append _ _
    | false => rw [upto_miss hb]; exact List.prefix_refl _

/-- The lowest relation; 128 for none. -/
def lowest (lo hi : Nat) : Nat := if lo = 0 then 64 + Lib.ctz 64 hi else Lib.ctz 64 lo
/-- The set of relation f alone. -/
def sLo (f : Nat) : Nat := if f < 64 then 2 ^ f else 0
def sHi (f : Nat) : Nat := if f < 64 then 0 else 2 ^ (f - 64)
/-- 'a &^ b', words of 64 bits. -/
def sub (a b : Nat) : Nat := a &&& (18446744073709551615 - b)

/-- What is left when all below m have come. -/
structure St (lo0 hi0 m lo hi : Nat) : Prop where
  le : m ≤ 128
  lo64 : lo < 18446744073709551616
  hi64 : hi < 18446744073709551616
  bits : ∀ i, i < 128 → bit lo hi i = (bit lo0 hi0 i && decide (m ≤ i))

theorem St.start {lo hi : Nat} (h1 : lo < 18446744073709551616) (h2 : hi < 18446744073709551616) : St lo hi 0 lo hi :=
  ⟨by omega, h1, h2, fun i _ => by simp⟩

theorem ctz_spec {x : Nat} (h0 : x ≠ 0) (h : x < 18446744073709551616) :
    Lib.ctz 64 x < 64 ∧ x.testBit (Lib.ctz 64 x) = true ∧ ∀ i, i < Lib.ctz 64 x → x.testBit i = false := by
  have e : Lib.ctz 64 x = Lib.ctzFrom 64 x := by simp [Lib.ctz, h0]
  obtain ⟨m, hm, hk⟩ := Lib.ctzFrom_spec 64 x (by omega) h
  rw [e]
  refine ⟨hk, ?_, fun i hi => ?_⟩
  · generalize Lib.ctzFrom 64 x = k at hm hk
    rw [hm, Nat.mul_comm, Nat.testBit_mul_two_pow]
    simp [Nat.testBit_zero]
  · generalize Lib.ctzFrom 64 x = k at hm hk hi
    rw [hm, Nat.mul_comm, Nat.testBit_mul_two_pow]
    simp; omega

theorem sub_zero {a : Nat} (h : a < 18446744073709551616) : sub a 0 = a := by
  unfold sub
  have := Nat.and_two_pow_sub_one_eq_mod a 64
  simp only [Nat.reducePow, Nat.reduceSub] at this
  simp only [Nat.sub_zero]
  rw [this]; exact Nat.mod_eq_of_lt h

theorem sub_bit {a k i : Nat} (hk : k < 64) (hi : i < 64) : (sub a (2 ^ k)).testBit i = (a.testBit i && decide (i ≠ k)) := by
  unfold sub
  have hlt : 2 ^ k < 2 ^ 64 := Nat.pow_lt_pow_right (by omega) hk
  have e : 18446744073709551615 - 2 ^ k = 2 ^ 64 - (2 ^ k + 1) := by simp only [Nat.reducePow] at hlt ⊢; omega
  rw [e, Nat.testBit_and, Nat.testBit_two_pow_sub_succ hlt, Nat.testBit_two_pow]
  by_cases h : i = k
  · subst h; simp
  · have h' : k ≠ i := fun e => h e.symm
    simp [hi, h, h']

theorem sub_le (a b : Nat) : sub a b ≤ a := Nat.and_le_left
theorem sub_lt64 {a : Nat} (b : Nat) (h : a < 18446744073709551616) : sub a b < 18446744073709551616 := Nat.lt_of_le_of_lt (sub_le a b) h

theorem sub_lt {a k : Nat} (hk : k < 64) (hb : a.testBit k = true) : sub a (2 ^ k) < a := by
  apply Nat.lt_of_le_of_ne (sub_le _ _)
  intro e
  have := sub_bit (a := a) hk hk
  rw [e, hb] at this
  simp at this

theorem bit_lo {lo hi i : Nat} (h : i < 64) : bit lo hi i = lo.testBit i := by simp [bit, h]
theorem bit_hi {lo hi i : Nat} (h : 64 ≤ i) : bit lo hi i = hi.testBit (i - 64) := by simp [bit, show ¬ i < 64 by omega]

/-- The lowest relation of a set that is not empty: it is there, and none below it is. -/
theorem lowest_spec {lo hi : Nat} (h1 : lo < 18446744073709551616) (h2 : hi < 18446744073709551616) (hne : ¬ (lo = 0 ∧ hi = 0)) :
    lowest lo hi < 128 ∧ bit lo hi (lowest lo hi) = true ∧ ∀ i, i < lowest lo hi → bit lo hi i = false := by
  unfold lowest
  by_cases h0 : lo = 0
  · subst h0
    obtain ⟨a, b, c⟩ := ctz_spec (x := hi) (by omega) h2
    refine ⟨by simp; omega, ?_, fun i hi => ?_⟩
    · simp only [if_true]; rw [bit_hi (by omega)]; simpa using b
    · simp only [if_true] at hi
      by_cases hi6 : i < 64
      · rw [bit_lo hi6]; simp
      · rw [bit_hi (by omega)]; exact c _ (by omega)
  · obtain ⟨a, b, c⟩ := ctz_spec h0 h1
    rw [if_neg h0]
    exact ⟨by omega, by rw [bit_lo a]; exact b, fun i hi => by rw [bit_lo (by omega)]; exact c i hi⟩

/-- One bit taken away. -/
theorem next_bit {lo hi f i : Nat} (h1 : lo < 18446744073709551616) (h2 : hi < 18446744073709551616) (hf : f < 128) (hi8 : i < 128) :
    bit (sub lo (sLo f)) (sub hi (sHi f)) i = (bit lo hi i && decide (i ≠ f)) := by
  by_cases hf6 : f < 64
  · have e1 : sLo f = 2 ^ f := by simp [sLo, hf6]
    have e2 : sHi f = 0 := by simp [sHi, hf6]
    rw [e1, e2, sub_zero h2]
    by_cases hi6 : i < 64
    · rw [bit_lo hi6, bit_lo hi6, sub_bit hf6 hi6]
    · rw [bit_hi (by omega), bit_hi (by omega)]; simp; omega
  · have e1 : sLo f = 0 := by simp [sLo, hf6]
    have e2 : sHi f = 2 ^ (f - 64) := by simp [sHi, hf6]
    rw [e1, e2, sub_zero h1]
    by_cases hi6 : i < 64
    · rw [bit_lo hi6, bit_lo hi6]; simp; omega
    · rw [bit_hi (by omega), bit_hi (by omega), sub_bit (by omega) (by omega)]
      congr 1
      simp; omega

theorem next_lt {lo hi f : Nat} (h1 : lo < 18446744073709551616) (h2 : hi < 18446744073709551616) (hf : f < 128) (hb : bit lo hi f = true) :
    sub lo (sLo f) + sub hi (sHi f) < lo + hi := by
  by_cases hf6 : f < 64
  · have e1 : sLo f = 2 ^ f := by simp [sLo, hf6]
    have e2 : sHi f = 0 := by simp [sHi, hf6]
    rw [e1, e2, sub_zero h2]
    have := sub_lt hf6 (by rw [← bit_lo (hi := hi) hf6]; exact hb)
    omega
  · have e1 : sLo f = 0 := by simp [sLo, hf6]
    have e2 : sHi f = 2 ^ (f - 64) := by simp [sHi, hf6]
    rw [e1, e2, sub_zero h1]
    have := sub_lt (a := hi) (k := f - 64) (by omega) (by rw [← bit_hi (lo := lo) (by omega)]; exact hb)
    omega

/-- NOTHING IS LEFT: all have come. -/
theorem St.over {lo0 hi0 m : Nat} (h : St lo0 hi0 m 0 0) : upto lo0 hi0 m = upto lo0 hi0 128 := by
  have hle := h.le
  have := upto_gap (lo := lo0) (hi := hi0) (m := m) (128 - m) (fun i h1 h2 => by
    have hb := h.bits i (by omega)
    simp only [h1, decide_true, Bool.and_true] at hb
    rw [← hb]; simp [bit])
  rw [show m + (128 - m) = 128 by omega] at this
  exact this.symm

/-- ONE ROUND. -/
theorem St.step {lo0 hi0 m lo hi : Nat} (h : St lo0 hi0 m lo hi) (hne : ¬ (lo = 0 ∧ hi = 0)) :
    lowest lo hi < 128 ∧ upto lo0 hi0 (lowest lo hi + 1) = upto lo0 hi0 m ++ [(lowest lo hi : Int)] ∧
    upto lo0 hi0 m ++ [(lowest lo hi : Int)] <+: upto lo0 hi0 128 ∧
    St lo0 hi0 (lowest lo hi + 1) (sub lo (sLo (lowest lo hi))) (sub hi (sHi (lowest lo hi))) ∧
    sub lo (sLo (lowest lo hi)) + sub hi (sHi (lowest lo hi)) < lo + hi := by
  obtain ⟨hf, hb, hlow⟩ := lowest_spec h.lo64 h.hi64 hne
  generalize lowest lo hi = f at hf hb hlow
  have hbf := h.bits f hf
  rw [hb] at hbf
  simp at hbf
  obtain ⟨hb0, hmf⟩ := hbf
  have e : upto lo0 hi0 (f + 1) = upto lo0 hi0 m ++ [(f : Int)] := by
    rw [upto_hit hb0]
    have := upto_gap (lo := lo0) (hi := hi0) (m := m) (f - m) (fun i h1 h2 => by
      have hbi := h.bits i (by omega)
      rw [hlow i (by omega)] at hbi
      simp only [h1, decide_true, Bool.and_true] at hbi
      exact hbi.symm)
    rw [show m + (f - m) = f by omega] at this
    rw [this]
  refine ⟨hf, e, ?_, ⟨by omega, sub_lt64 _ h.lo64, sub_lt64 _ h.hi64, fun i hi8 => ?_⟩, next_lt h.lo64 h.hi64 hf hb⟩
  · rw [← e]
    have := upto_prefix lo0 hi0 (f + 1) (128 - (f + 1))
    rwa [show f + 1 + (128 - (f + 1)) = 128 by omega] at this
  · rw [next_bit h.lo64 h.hi64 hf hi8, h.bits i hi8]
    by_cases hif : i = f
    · subst hif; simp
    · by_cases hlt : i < f
      · have hbi := h.bits i hi8
        rw [hlow i hlt] at hbi
        rw [← hbi]; simp; intro _; omega
      · have : decide (m ≤ i) = true := by simp; omega
        have h2 : decide (f + 1 ≤ i) = true := by simp; omega
        simp [this, hif, h2]

end Go.Proofs.YbulkatmyDoor.Pl
