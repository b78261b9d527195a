/-
  The plain law of 'plainIntegerEnd' and of the model beside it: numbers alone, no Go.
-/
namespace Go.Proofs.YbulkalykDoor.Plain

/-- A byte that may follow a scalar. -/
def endsB (c : Int) : Bool := c == 32 || c == 9 || c == 10 || c == 13 || c == 44 || c == 93 || c == 125

/-- Where the digits begin. -/
def sg (z : Nat → Int) (n i : Nat) : Nat := if i < n ∧ z i = 45 then i + 1 else i

/-- 'e' is where the run of digits that begins at 's' ends. -/
def IsEnd (z : Nat → Int) (n s e : Nat) : Prop :=
  s ≤ e ∧ (∀ k, s ≤ k → k < e → k < n ∧ 48 ≤ z k ∧ z k ≤ 57) ∧ (e < n → z e < 48 ∨ 57 < z e)

theorem IsEnd.ex (z : Nat → Int) (n : Nat) : ∀ (f s : Nat), n ≤ s + f → ∃ e, IsEnd z n s e := by
  intro f
  induction f with
  | zero => intro s h; exact ⟨s, Nat.le_refl _, fun k h1 h2 => by omega, fun h' => by omega⟩
  | succ f ih =>
    intro s h
    by_cases hs : s < n ∧ 48 ≤ z s ∧ z s ≤ 57
    · obtain ⟨e, h1, h2, h3⟩ := ih (s + 1) (by omega)
      refine ⟨e, by omega, fun k hk hke => ?_, h3⟩
      by_cases hks : k = s
      · subst hks; exact hs
      · exact h2 k (by omega) hke
    · exact ⟨s, Nat.le_refl _, fun k h1 h2 => by omega, fun h' => by omega⟩

theorem IsEnd.unique {z : Nat → Int} {n s e e' : Nat} (h : IsEnd z n s e) (h' : IsEnd z n s e') : e = e' := by
  obtain ⟨a1, a2, a3⟩ := h
  obtain ⟨b1, b2, b3⟩ := h'
  rcases Nat.lt_trichotomy e e' with hl | hl | hl
  · have := b2 e a1 hl; have := a3 this.1; omega
  · exact hl
  · have := a2 e' b1 hl; have := b3 this.1; omega

/-- No integer stands there. -/
def badB (z : Nat → Int) (s e : Nat) : Bool := e == s || (z s == 48 && decide (s + 1 < e))
def outE (z : Nat → Int) (s e : Nat) : Int := if badB z s e = true then 0 else (e : Int)
def outB (z : Nat → Int) (n s e : Nat) : Bool := if badB z s e = true then false else e == n || endsB (z e)

end Go.Proofs.YbulkalykDoor.Plain
