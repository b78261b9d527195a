/-
  The count of ones as 'OnesCount64' reckons it, at every mask of a span. No Go.
-/
import Derived.Test.YbulkamaoBits
namespace Go.Proofs.Ybulkamao

def p1 (x : Nat) : Nat := ((x / 2 &&& 6148914691236517205) + (x &&& 6148914691236517205)) % 18446744073709551616
def p2 (x : Nat) : Nat := ((p1 x / 4 &&& 3689348814741910323) + (p1 x &&& 3689348814741910323)) % 18446744073709551616
def p3 (x : Nat) : Nat := (p2 x / 16 + p2 x) % 18446744073709551616 &&& 1085102592571150095
def p4 (x : Nat) : Nat := (p3 x + p3 x / 256) % 18446744073709551616
def p5 (x : Nat) : Nat := (p4 x + p4 x / 65536) % 18446744073709551616
def p6 (x : Nat) : Nat := (p5 x + p5 x / 4294967296) % 18446744073709551616
def popN (x : Nat) : Nat := p6 x % 128

/-- All masks, by reckoning. -/
theorem pop_masks : ((List.range 64).all fun a => (List.range 64).all fun b => decide (b < a) || (decide (popN (headN a &&& tailN b) = b + 1 - a) && decide (p6 (headN a &&& tailN b) < 9223372036854775808))) = true := by decide +kernel

theorem pop_mask (a b : Nat) (hab : a ≤ b) (hb : b ≤ 63) : popN (headN a &&& tailN b) = b + 1 - a ∧ p6 (headN a &&& tailN b) < 9223372036854775808 := by
  have h1 := List.all_eq_true.1 pop_masks a (by simp; omega)
  have h2 := List.all_eq_true.1 h1 b (by simp; omega)
  simp at h2
  rcases h2 with h | h
  · omega
  · exact h
theorem pop_zero : popN 0 = 0 ∧ p6 0 < 9223372036854775808 := by decide +kernel

theorem tail63 : tailN 63 = ones := by decide +kernel
theorem head0 : headN 0 = ones := by decide +kernel
theorem and_ones (x : Nat) (h : x < 18446744073709551616) : x &&& ones = x := by
  apply Nat.eq_of_testBit_eq
  intro i
  rw [Nat.testBit_and, ones_bit]
  by_cases hi : i < 64
  · simp [hi]
  · have : x.testBit i = false := Nat.testBit_lt_two_pow (Nat.lt_of_lt_of_le (show x < 2 ^ 64 from h) (Nat.pow_le_pow_right (n := 2) (by decide) (by omega : 64 ≤ i)))
    simp [this]
theorem head_as (a : Nat) : headN a &&& tailN 63 = headN a := by rw [tail63]; exact and_ones _ (headN_lt _)
theorem tail_as (b : Nat) : headN 0 &&& tailN b = tailN b := by rw [head0, Nat.and_comm]; exact and_ones _ (tailN_lt _)
theorem ones_as : headN 0 &&& tailN 63 = ones := by rw [head_as, head0]

/-- How many nodes of the span lie in word j. -/
def cntW (lo hi j : Nat) : Nat := min hi (64 * (j + 1)) - max lo (64 * j)

theorem pop_setW (lo hi j : Nat) (h : lo < hi) : popN (setW lo hi (fun _ => 0) j) = cntW lo hi j ∧ p6 (setW lo hi (fun _ => 0) j) < 9223372036854775808 := by
  unfold setW cntW
  by_cases h1 : lo / 64 = (hi - 1) / 64
  · rw [if_pos h1]
    by_cases h2 : j = lo / 64
    · rw [if_pos h2, Nat.zero_or]
      have := pop_mask (lo % 64) ((hi - 1) % 64) (by omega) (by omega)
      exact ⟨by rw [this.1]; omega, this.2⟩
    · rw [if_neg h2]
      exact ⟨by rw [pop_zero.1]; omega, pop_zero.2⟩
  · rw [if_neg h1]
    by_cases h2 : j = (hi - 1) / 64
    · rw [if_pos h2, Nat.zero_or, ← tail_as]
      have := pop_mask 0 ((hi - 1) % 64) (by omega) (by omega)
      exact ⟨by rw [this.1]; omega, this.2⟩
    · rw [if_neg h2]
      by_cases h3 : j = lo / 64
      · rw [if_pos h3, Nat.zero_or, ← head_as]
        have := pop_mask (lo % 64) 63 (by omega) (by omega)
        exact ⟨by rw [this.1]; omega, this.2⟩
      · rw [if_neg h3]
        by_cases h4 : lo / 64 < j ∧ j < (hi - 1) / 64
        · rw [if_pos h4, ← ones_as]
          have := pop_mask 0 63 (by omega) (by omega)
          exact ⟨by rw [this.1]; omega, this.2⟩
        · rw [if_neg h4]
          exact ⟨by rw [pop_zero.1]; omega, pop_zero.2⟩

theorem sum_step (lo hi k : Nat) (h : lo < hi) : (min hi (64 * (k + 1)) - lo) = (min hi (64 * k) - lo) + cntW lo hi k := by unfold cntW; omega

theorem meet_one (a b : Nat) (hab : a ≤ b) (hb : b ≤ 63) : (headN a &&& tailN b) &&& headN a &&& tailN b ≠ 0 := by
  intro h
  have := congrArg (fun x => Nat.testBit x a) h
  simp only [Nat.testBit_and, headN_bit, tailN_bit _ _ hb, Nat.zero_testBit] at this
  simp at this
  omega
theorem meet_head (a : Nat) (ha : a ≤ 63) : headN a &&& headN a ≠ 0 := by
  intro h
  have := congrArg (fun x => Nat.testBit x a) h
  simp only [Nat.testBit_and, headN_bit, Nat.zero_testBit] at this
  simp at this
  omega
end Go.Proofs.Ybulkamao
