/-
  Words of 64 bits as natural numbers: the masks of a span, bit by bit. No Go.
-/
namespace Go.Proofs.Ybulkamao

def ones : Nat := 18446744073709551615
/-- The bits from s on. -/
def headN (s : Nat) : Nat := 18446744073709551615 * 2 ^ s % 18446744073709551616
/-- The bits up to t. -/
def tailN (t : Nat) : Nat := 18446744073709551615 / 2 ^ (63 - t)

theorem ones_bit (i : Nat) : ones.testBit i = decide (i < 64) := by
  show (2 ^ 64 - 1 : Nat).testBit i = _
  rw [Nat.testBit_two_pow_sub_one]
theorem headN_bit (s i : Nat) : (headN s).testBit i = (decide (s ≤ i) && decide (i < 64)) := by
  show ((2 ^ 64 - 1) * 2 ^ s % 2 ^ 64 : Nat).testBit i = _
  rw [Nat.testBit_mod_two_pow, Nat.testBit_mul_two_pow, Nat.testBit_two_pow_sub_one]
  by_cases h1 : i < 64 <;> by_cases h2 : s ≤ i <;> simp [h1, h2]
  omega
theorem tailN_bit (t i : Nat) (ht : t ≤ 63) : (tailN t).testBit i = decide (i ≤ t) := by
  show ((2 ^ 64 - 1) / 2 ^ (63 - t) : Nat).testBit i = _
  rw [Nat.testBit_div_two_pow, Nat.testBit_two_pow_sub_one]
  by_cases h : i ≤ t <;> simp [h] <;> omega
theorem headN_lt (s : Nat) : headN s < 18446744073709551616 := Nat.mod_lt _ (by decide)
theorem tailN_lt (t : Nat) : tailN t < 18446744073709551616 := Nat.lt_of_le_of_lt (Nat.div_le_self _ _) (by decide)
theorem or_lt {a b : Nat} (ha : a < 18446744073709551616) (hb : b < 18446744073709551616) : a ||| b < 18446744073709551616 := Nat.or_lt_two_pow (n := 64) ha hb
theorem and_lt {a : Nat} (b : Nat) (ha : a < 18446744073709551616) : a &&& b < 18446744073709551616 := Nat.lt_of_le_of_lt Nat.and_le_left ha

/-- The words behind 'setSpan'. -/
def setW (lo hi : Nat) (X : Nat → Nat) (j : Nat) : Nat :=
  if lo / 64 = (hi - 1) / 64 then (if j = lo / 64 then X j ||| (headN (lo % 64) &&& tailN ((hi - 1) % 64)) else X j)
  else if j = (hi - 1) / 64 then X j ||| tailN ((hi - 1) % 64) else if j = lo / 64 then X j ||| headN (lo % 64)
  else if lo / 64 < j ∧ j < (hi - 1) / 64 then ones else X j

theorem setW_lt (lo hi : Nat) (X : Nat → Nat) (j : Nat) (hX : X j < 18446744073709551616) : setW lo hi X j < 18446744073709551616 := by
  unfold setW
  split
  · split
    · exact or_lt hX (and_lt _ (headN_lt _))
    · exact hX
  · split
    · exact or_lt hX (tailN_lt _)
    · split
      · exact or_lt hX (headN_lt _)
      · split
        · decide
        · exact hX

theorem setW_bit (lo hi : Nat) (X : Nat → Nat) (j i : Nat) (h : lo < hi) (hi64 : i < 64) :
    (setW lo hi X j).testBit i = ((X j).testBit i || (decide (lo ≤ 64 * j + i) && decide (64 * j + i < hi))) := by
  have key : ∀ m : Bool, m = (decide (lo ≤ 64 * j + i) && decide (64 * j + i < hi)) → ((X j).testBit i || m) = ((X j).testBit i || (decide (lo ≤ 64 * j + i) && decide (64 * j + i < hi))) := fun m e => by rw [e]
  unfold setW
  by_cases h1 : lo / 64 = (hi - 1) / 64
  · rw [if_pos h1]
    by_cases h2 : j = lo / 64
    · rw [if_pos h2, Nat.testBit_or, Nat.testBit_and, headN_bit, tailN_bit _ _ (by omega)]
      apply key
      rw [Bool.eq_iff_iff]; simp; omega
    · rw [if_neg h2]
      have : (decide (lo ≤ 64 * j + i) && decide (64 * j + i < hi)) = false := by simp; omega
      rw [this]; simp
  · rw [if_neg h1]
    by_cases h2 : j = (hi - 1) / 64
    · rw [if_pos h2, Nat.testBit_or, tailN_bit _ _ (by omega)]
      apply key
      rw [Bool.eq_iff_iff]; simp; omega
    · rw [if_neg h2]
      by_cases h3 : j = lo / 64
      · rw [if_pos h3, Nat.testBit_or, headN_bit]
        apply key
        rw [Bool.eq_iff_iff]; simp; omega
      · rw [if_neg h3]
        by_cases h4 : lo / 64 < j ∧ j < (hi - 1) / 64
        · rw [if_pos h4, ones_bit]
          have : (decide (lo ≤ 64 * j + i) && decide (64 * j + i < hi)) = true := by simp; omega
          rw [this]; simp [hi64]
        · rw [if_neg h4]
          have : (decide (lo ≤ 64 * j + i) && decide (64 * j + i < hi)) = false := by simp; omega
          rw [this]; simp

end Go.Proofs.Ybulkamao
