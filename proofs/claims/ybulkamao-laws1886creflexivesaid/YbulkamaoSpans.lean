/-
  Spans of natural numbers: membership, the difference of two lists of spans. No Go.
-/
import Derived.Test.YbulkamaoBits
namespace Go.Proofs.Ybulkamao

def memL (L : List (Nat × Nat)) (i : Nat) : Prop := ∃ p ∈ L, p.1 ≤ i ∧ i < p.2

/-- Spans that hold a node each, ascending, from b on. -/
def Asc : Nat → List (Nat × Nat) → Prop
  | _, [] => True
  | b, p :: L => b ≤ p.1 ∧ p.1 < p.2 ∧ Asc p.2 L

theorem memL_nil (i : Nat) : ¬ memL [] i := by rintro ⟨p, hp, _⟩; cases hp
theorem memL_cons (p : Nat × Nat) (L : List (Nat × Nat)) (i : Nat) : memL (p :: L) i ↔ (p.1 ≤ i ∧ i < p.2) ∨ memL L i := by
  unfold memL; simp
theorem memL_append (L M : List (Nat × Nat)) (i : Nat) : memL (L ++ M) i ↔ memL L i ∨ memL M i := by
  unfold memL
  constructor
  · rintro ⟨p, hp, h⟩
    rcases List.mem_append.1 hp with hp | hp
    · exact .inl ⟨p, hp, h⟩
    · exact .inr ⟨p, hp, h⟩
  · rintro (⟨p, hp, h⟩ | ⟨p, hp, h⟩)
    · exact ⟨p, List.mem_append.2 (.inl hp), h⟩
    · exact ⟨p, List.mem_append.2 (.inr hp), h⟩
theorem Asc.mono {a b : Nat} {L : List (Nat × Nat)} (h : Asc b L) (hab : a ≤ b) : Asc a L := by
  cases L with
  | nil => trivial
  | cons p L => exact ⟨Nat.le_trans hab h.1, h.2⟩
theorem Asc.ge {b : Nat} : ∀ {L : List (Nat × Nat)}, Asc b L → ∀ i, memL L i → b ≤ i := by
  intro L
  induction L generalizing b with
  | nil => intro _ i hi; exact absurd hi (memL_nil i)
  | cons p L ih =>
    intro h i hi
    rcases (memL_cons p L i).1 hi with hi | hi
    · have := h.1; omega
    · have := ih h.2.2 i hi; have := h.1; have := h.2.1; omega

def dropW (s : Nat) : List (Nat × Nat) → List (Nat × Nat)
  | [] => []
  | p :: A => if p.2 ≤ s then dropW s A else p :: A
def cuts (lo hi : Nat) : List (Nat × Nat) → List (Nat × Nat)
  | [] => if lo < hi then [(lo, hi)] else []
  | p :: A => if hi ≤ p.1 then (if lo < hi then [(lo, hi)] else []) else (if lo < p.1 then [(lo, p.1)] else []) ++ cuts p.2 hi A
def minus : List (Nat × Nat) → List (Nat × Nat) → List (Nat × Nat)
  | [], _ => []
  | p :: B, A => cuts p.1 p.2 (dropW p.1 A) ++ minus B (dropW p.1 A)

theorem dropW_asc {s b : Nat} : ∀ {A : List (Nat × Nat)}, Asc b A → Asc b (dropW s A) := by
  intro A
  induction A generalizing b with
  | nil => intro h; exact h
  | cons p A ih =>
    intro h
    unfold dropW
    split
    · exact ih (h.2.2.mono (by have := h.1; have := h.2.1; omega))
    · exact h
theorem dropW_mem {s : Nat} : ∀ (A : List (Nat × Nat)) (i : Nat), s ≤ i → (memL (dropW s A) i ↔ memL A i) := by
  intro A
  induction A with
  | nil => intro i _; exact Iff.rfl
  | cons p A ih =>
    intro i hi
    unfold dropW
    split
    · rw [ih i hi, memL_cons]
      constructor
      · exact .inr
      · rintro (h | h)
        · omega
        · exact h
    · exact Iff.rfl
theorem dropW_head (s : Nat) : ∀ (A : List (Nat × Nat)), dropW s A = [] ∨ ∃ p A', dropW s A = p :: A' ∧ s < p.2 := by
  intro A
  induction A with
  | nil => exact .inl rfl
  | cons p A ih =>
    unfold dropW
    split
    · exact ih
    · exact .inr ⟨p, A, rfl, by omega⟩

theorem cuts_mem (hi : Nat) : ∀ (A : List (Nat × Nat)) (lo b : Nat), Asc b A → (∀ p A', A = p :: A' → lo ≤ p.2) → ∀ i, memL (cuts lo hi A) i ↔ (lo ≤ i ∧ i < hi) ∧ ¬ memL A i := by
  intro A
  induction A with
  | nil =>
    intro lo b _ _ i
    unfold cuts
    have h0 := memL_nil i
    by_cases h : lo < hi
    · rw [if_pos h, memL_cons]; simp only [h0, or_false, not_false_eq_true, and_true]
    · rw [if_neg h]; simp only [h0, not_false_eq_true, and_true, false_iff]; omega
  | cons p A ih =>
    intro lo b h hlo i
    obtain ⟨h1, h2, h3⟩ := h
    have hge := h3.ge i
    have hp := hlo p A rfl
    unfold cuts
    by_cases hc : hi ≤ p.1
    · rw [if_pos hc, memL_cons]
      have h0 := memL_nil i
      by_cases h : lo < hi
      · rw [if_pos h, memL_cons]
        simp only [h0, or_false]
        constructor
        · intro hh; refine ⟨hh, ?_⟩; rintro (h' | h')
          · omega
          · have := hge h'; omega
        · exact fun hh => hh.1
      · rw [if_neg h]
        constructor
        · intro hh; exact absurd hh h0
        · intro hh; omega
    · rw [if_neg hc, memL_append, memL_cons, ih p.2 p.2 h3 (fun q A' e => by subst e; have := h3.1; have := h3.2.1; omega) i]
      have h0 := memL_nil i
      have hfirst : memL (if lo < p.1 then [(lo, p.1)] else []) i ↔ lo ≤ i ∧ i < p.1 := by
        by_cases h : lo < p.1
        · rw [if_pos h, memL_cons]; simp only [h0, or_false]
        · rw [if_neg h]; constructor
          · intro hh; exact absurd hh h0
          · intro hh; omega
      rw [hfirst]
      constructor
      · rintro (hh | ⟨hh, hn⟩)
        · refine ⟨by omega, ?_⟩
          rintro (h' | h')
          · omega
          · have := hge h'; omega
        · refine ⟨by omega, ?_⟩
          rintro (h' | h')
          · omega
          · exact hn h'
      · rintro ⟨hh, hn⟩
        by_cases hi1 : i < p.1
        · exact .inl ⟨hh.1, hi1⟩
        · right
          refine ⟨⟨?_, hh.2⟩, fun h' => hn (.inr h')⟩
          by_cases hi2 : i < p.2
          · exact absurd (.inl ⟨by omega, hi2⟩) hn
          · omega

theorem minus_mem : ∀ (B A : List (Nat × Nat)) (b a : Nat), Asc b B → Asc a A → ∀ i, memL (minus B A) i ↔ memL B i ∧ ¬ memL A i := by
  intro B
  induction B with
  | nil =>
    intro A b a _ _ i
    unfold minus
    have := memL_nil i
    simp only [this, false_and]
  | cons p B ih =>
    intro A b a hB hA i
    obtain ⟨h1, h2, h3⟩ := hB
    have hd := dropW_asc (s := p.1) hA
    unfold minus
    rw [memL_append, cuts_mem p.2 (dropW p.1 A) p.1 a hd ?_ i, ih (dropW p.1 A) p.2 a h3 hd i, memL_cons]
    · constructor
      · rintro (⟨hh, hn⟩ | ⟨hh, hn⟩)
        · exact ⟨.inl hh, fun h' => hn ((dropW_mem A i hh.1).2 h')⟩
        · have := h3.ge i hh
          exact ⟨.inr hh, fun h' => hn ((dropW_mem A i (by omega)).2 h')⟩
      · rintro ⟨hh | hh, hn⟩
        · exact .inl ⟨hh, fun h' => hn ((dropW_mem A i hh.1).1 h')⟩
        · have := h3.ge i hh
          exact .inr ⟨hh, fun h' => hn ((dropW_mem A i (by omega)).1 h')⟩
    · intro q A' e
      rcases dropW_head p.1 A with h | ⟨q', A'', h, hlt⟩
      · rw [h] at e; cases e
      · rw [h] at e; cases e; omega

/-- Each span of a difference holds a node. -/
theorem cuts_full (hi : Nat) : ∀ (A : List (Nat × Nat)) (lo : Nat), ∀ p ∈ cuts lo hi A, p.1 < p.2 := by
  intro A
  induction A with
  | nil =>
    intro lo p hp
    unfold cuts at hp
    split at hp
    · simp at hp; subst hp; assumption
    · cases hp
  | cons q A ih =>
    intro lo p hp
    unfold cuts at hp
    split at hp
    · split at hp
      · simp at hp; subst hp; assumption
      · cases hp
    · rcases List.mem_append.1 hp with hp | hp
      · split at hp
        · simp at hp; subst hp; assumption
        · cases hp
      · exact ih _ p hp
theorem minus_full : ∀ (B A : List (Nat × Nat)), ∀ p ∈ minus B A, p.1 < p.2 := by
  intro B
  induction B with
  | nil => intro A p hp; unfold minus at hp; cases hp
  | cons q B ih =>
    intro A p hp
    unfold minus at hp
    rcases List.mem_append.1 hp with hp | hp
    · exact cuts_full _ _ _ p hp
    · exact ih _ p hp
theorem empty_of_none {L : List (Nat × Nat)} (hf : ∀ p ∈ L, p.1 < p.2) : L = [] ↔ ∀ i, ¬ memL L i := by
  constructor
  · rintro rfl; exact memL_nil
  · intro h
    cases L with
    | nil => rfl
    | cons p L => exact absurd ⟨p, by simp, Nat.le_refl _, hf p (by simp)⟩ (h p.1)

theorem cuts_len (hi : Nat) : ∀ (A : List (Nat × Nat)) (lo : Nat), (cuts lo hi A).length ≤ A.length + 1 := by
  intro A
  induction A with
  | nil => intro lo; unfold cuts; split <;> simp
  | cons q A ih =>
    intro lo
    have := ih q.2
    unfold cuts
    split
    · split <;> simp
    · rw [List.length_append]
      split <;> simp <;> omega
theorem dropW_len (s : Nat) : ∀ (A : List (Nat × Nat)), (dropW s A).length ≤ A.length := by
  intro A
  induction A with
  | nil => exact Nat.le_refl _
  | cons p A ih => unfold dropW; split <;> simp <;> omega
theorem minus_len : ∀ (B A : List (Nat × Nat)) (a : Nat), A.length ≤ a → (minus B A).length ≤ B.length * (a + 1) := by
  intro B
  induction B with
  | nil => intro A a _; simp [minus]
  | cons p B ih =>
    intro A a ha
    have h0 := dropW_len p.1 A
    have h1 := cuts_len p.2 (dropW p.1 A) p.1
    have h2 := ih (dropW p.1 A) a (by omega)
    unfold minus
    rw [List.length_append, List.length_cons, Nat.succ_mul]
    omega
end Go.Proofs.Ybulkamao
