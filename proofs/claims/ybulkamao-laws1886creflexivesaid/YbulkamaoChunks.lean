/-
  Words and chunks of spans, bit by bit. No Go.
-/
import Derived.Test.YbulkamaoSpans
namespace Go.Proofs.Ybulkamao

def memX (X : Nat → Nat) (i : Nat) : Prop := (X (i / 64)).testBit (i % 64) = true

/-- The bits of a stretch of nodes within one word. -/
def chunkN (lo hi : Nat) : Nat := 18446744073709551615 / 2 ^ (64 - (hi - lo)) * 2 ^ (lo % 64) % 18446744073709551616

theorem chunkN_lt (lo hi : Nat) : chunkN lo hi < 18446744073709551616 := Nat.mod_lt _ (by decide)
theorem chunk_bit (lo hi i : Nat) (h : lo < hi) (h2 : hi ≤ (lo / 64 + 1) * 64) (hi64 : i < 64) : (chunkN lo hi).testBit i = (decide (lo ≤ 64 * (lo / 64) + i) && decide (64 * (lo / 64) + i < hi)) := by
  show ((2 ^ 64 - 1) / 2 ^ (64 - (hi - lo)) * 2 ^ (lo % 64) % 2 ^ 64 : Nat).testBit i = _
  rw [Nat.testBit_mod_two_pow, Nat.testBit_mul_two_pow, Nat.testBit_div_two_pow, Nat.testBit_two_pow_sub_one]
  rw [Bool.eq_iff_iff]
  simp
  omega

theorem andNot_zero (x y : Nat) (hy : y < 18446744073709551616) : (x &&& (18446744073709551615 - y) = 0) ↔ ∀ i, i < 64 → x.testBit i = true → y.testBit i = true := by
  have hb : ∀ i, (18446744073709551615 - y).testBit i = (decide (i < 64) && !y.testBit i) := by
    intro i
    have e : 18446744073709551615 - y = 2 ^ 64 - (y + 1) := by omega
    rw [e, Nat.testBit_two_pow_sub_succ (show y < 2 ^ 64 from hy)]
  constructor
  · intro h i hi hxi
    have := congrArg (fun n => Nat.testBit n i) h
    simp only [Nat.testBit_and, hb, Nat.zero_testBit, hxi, hi, decide_true, Bool.true_and] at this
    simpa using this
  · intro h
    apply Nat.eq_of_testBit_eq
    intro i
    rw [Nat.testBit_and, hb, Nat.zero_testBit]
    by_cases hi : i < 64
    · cases hxi : x.testBit i
      · simp
      · simp [h i hi hxi]
    · simp [hi]
theorem and_zero (x y : Nat) (hx : x < 18446744073709551616) : (x &&& y = 0) ↔ ∀ i, i < 64 → x.testBit i = true → ¬ y.testBit i = true := by
  constructor
  · intro h i hi hxi hyi
    have := congrArg (fun n => Nat.testBit n i) h
    simp [Nat.testBit_and, hxi, hyi] at this
  · intro h
    apply Nat.eq_of_testBit_eq
    intro i
    rw [Nat.testBit_and, Nat.zero_testBit]
    by_cases hi : i < 64
    · cases hxi : x.testBit i
      · simp
      · have := h i hi hxi
        simp at this
        simp [this]
    · have : x.testBit i = false := Nat.testBit_lt_two_pow (Nat.lt_of_lt_of_le (show x < 2 ^ 64 from hx) (Nat.pow_le_pow_right (n := 2) (by decide) (by omega : 64 ≤ i)))
      simp [this]
theorem div_at (j i : Nat) (hi : i < 64) : (64 * j + i) / 64 = j ∧ (64 * j + i) % 64 = i := by omega

/-- What is asked of each node so far. -/
def Sofar (b0 : Bool) (T G : Nat → Prop) (b : Bool) : Prop := b = true ↔ (b0 = true ∧ ∀ i, T i → G i)
theorem Sofar.start (b0 : Bool) (G : Nat → Prop) (T : Nat → Prop) (h : ∀ i, ¬ T i) : Sofar b0 T G b0 := ⟨fun hb => ⟨hb, fun i hi => absurd hi (h i)⟩, fun hb => hb.1⟩
theorem Sofar.congr {b0 b : Bool} {T T' G : Nat → Prop} (h : Sofar b0 T G b) (e : ∀ i, T' i ↔ T i) : Sofar b0 T' G b :=
  ⟨fun hb => ⟨(h.1 hb).1, fun i hi => (h.1 hb).2 i ((e i).1 hi)⟩, fun hb => h.2 ⟨hb.1, fun i hi => hb.2 i ((e i).2 hi)⟩⟩
/-- A word (or a stretch of one) more: c says whether all its nodes are as they should be. -/
theorem Sofar.more {b0 b c : Bool} {T U G : Nat → Prop} (h : Sofar b0 T G b) (hc : c = true ↔ ∀ i, U i → G i) : Sofar b0 (fun i => T i ∨ U i) G (b && c) := by
  constructor
  · intro hb
    rw [Bool.and_eq_true] at hb
    exact ⟨(h.1 hb.1).1, fun i hi => hi.elim ((h.1 hb.1).2 i) (hc.1 hb.2 i)⟩
  · rintro ⟨h1, h2⟩
    rw [Bool.and_eq_true]
    exact ⟨h.2 ⟨h1, fun i hi => h2 i (.inl hi)⟩, hc.2 (fun i hi => h2 i (.inr hi))⟩

/-- Closure 1 at a word: all its bits are in the other word. -/
theorem ok_sub (X : Nat → Nat) (x j : Nat) (hX : X j < 18446744073709551616) :
    (decide (x &&& (18446744073709551615 - X j) = 0)) = true ↔ ∀ i, (i / 64 = j ∧ x.testBit (i % 64) = true) → memX X i := by
  rw [decide_eq_true_iff, andNot_zero x (X j) hX]
  constructor
  · rintro h i ⟨rfl, hi⟩; exact h (i % 64) (Nat.mod_lt _ (by decide)) hi
  · intro h i hi hxi
    have e := div_at j i hi
    have := h (64 * j + i) ⟨e.1, by rw [e.2]; exact hxi⟩
    unfold memX at this
    rw [e.1, e.2] at this; exact this
/-- Closure 2 at a word: none of its bits is in the other word. -/
theorem ok_off (X : Nat → Nat) (x j : Nat) (hx : x < 18446744073709551616) :
    (decide (x &&& X j = 0)) = true ↔ ∀ i, (i / 64 = j ∧ x.testBit (i % 64) = true) → ¬ memX X i := by
  rw [decide_eq_true_iff, and_zero x (X j) hx]
  constructor
  · rintro h i ⟨rfl, hi⟩; exact h (i % 64) (Nat.mod_lt _ (by decide)) hi
  · intro h i hi hxi
    have e := div_at j i hi
    have := h (64 * j + i) ⟨e.1, by rw [e.2]; exact hxi⟩
    unfold memX at this
    rw [e.1, e.2] at this; exact this

theorem word_more (Y : Nat → Nat) (k i : Nat) : (i < 64 * (k + 1) ∧ memX Y i) ↔ (i < 64 * k ∧ memX Y i) ∨ (i / 64 = k ∧ (Y k).testBit (i % 64) = true) := by
  unfold memX
  constructor
  · rintro ⟨h1, h2⟩
    by_cases h : i < 64 * k
    · exact .inl ⟨h, h2⟩
    · have e : i / 64 = k := by omega
      rw [e] at h2
      exact .inr ⟨e, h2⟩
  · rintro (⟨h1, h2⟩ | ⟨h1, h2⟩)
    · exact ⟨by omega, h2⟩
    · subst h1; exact ⟨by omega, h2⟩
theorem chunk_more (lo hi i : Nat) (h : lo < hi) (h2 : hi ≤ (lo / 64 + 1) * 64) : (i / 64 = lo / 64 ∧ (chunkN lo hi).testBit (i % 64) = true) ↔ (lo ≤ i ∧ i < hi) := by
  constructor
  · rintro ⟨e, hb⟩
    rw [chunk_bit lo hi (i % 64) h h2 (Nat.mod_lt _ (by decide))] at hb
    simp at hb
    omega
  · intro hh
    have e : i / 64 = lo / 64 := by omega
    refine ⟨e, ?_⟩
    rw [chunk_bit lo hi (i % 64) h h2 (Nat.mod_lt _ (by decide))]
    simp
    omega
end Go.Proofs.Ybulkamao
