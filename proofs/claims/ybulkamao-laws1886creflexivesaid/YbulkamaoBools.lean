/-
  Slices of bools that came in; the plain side of the fold of 'past' over a walk.
-/
import Derived.Test.YbulkamaoPast
import Derived.ProofKit
import Derived.Deep.Slices
namespace Go.Proofs.Ybulkamao
open Go.ChangeShapes Go.WideShapes Go.ChangeAt Go.RowKit Go.Deep

/-- A row of n bools lies at the address (or there is none). -/
def RowB (w : World) (a0 : Option Addr) (n : Nat) (z : Nat → Bool) : Prop :=
  n = 0 ∨ ∃ b off, a0 = some ⟨b, off, none⟩ ∧ ∀ k, k < n → w.cell? ⟨b, off + k, none⟩ = some (.bool (z k))

theorem rowB_of {H : Type} {enc : TypeId × Value → H} {W : World} {sp : Nat → Bool} {held : Bool} {fuel len cap : Nat} {a0 : Option Addr} {x : DataW H × List MemPlace}
    (h : DataW.trod enc Yba.prog W 0 sp held fuel 26 [.slice a0 len cap] = some x) : ∃ z, RowB W a0 len z ∧ len ≤ maxLen := by
  rcases open_slice1 Yba.underlying26 (by kernel_rfl) h with ⟨hcs, _⟩ | ⟨a, l, c, m, n, V, D, Pl, hcs, _, hl, hm, hmm, _, hV⟩
  · simp at hcs
    obtain ⟨rfl, rfl, rfl⟩ := hcs
    exact ⟨fun _ => false, .inl rfl, Nat.zero_le _⟩
  · simp at hcs
    obtain ⟨rfl, rfl, rfl⟩ := hcs
    have hlm : len ≤ m := by rw [hmm]; split <;> omega
    by_cases h0 : len = 0
    · subst h0; exact ⟨fun _ => false, .inl rfl, Nat.zero_le _⟩
    · have hb : ∀ i, i < m → ∃ z, V i = .bool z := fun i hi => by
        obtain ⟨b, e1, _⟩ := DataW.trod_bool Yba.underlying4 (hV i hi).2
        simp at e1
        exact ⟨b, e1⟩
      have hc0 := (hV 0 (by omega)).1
      obtain ⟨b, off, spot⟩ := a
      have hspot : spot = none := by simpa [Addr.add] using World.cell?_spot hc0
      subst hspot
      obtain ⟨z, hz⟩ := choose_lt (α := Bool) (p := fun i z => V i = .bool z) hb
      refine ⟨z, .inr ⟨b, off, rfl, fun k hk => ?_⟩, Nat.le_trans hl hm⟩
      have := (hV k (by omega)).1
      rw [hz k (by omega)] at this
      rw [Addr.add_lit] at this
      exact this

/-- How many arcs, up to two. -/
def sW (k : Nat) : Int := if k = 0 then 0 else if k = 1 then 1 else 2
def anyB (r : Nat → Bool) : Nat → Bool
  | 0 => false
  | k + 1 => anyB r k || r k
def sL (wk : Nat → Bool) (k : Nat) : Bool := if k = 0 then false else wk (k - 1)
def sF (wk : Nat → Bool) (k : Nat) : Bool := if k = 0 then false else wk 0
def adjB (wk : Nat → Bool) : Nat → Bool
  | 0 => false
  | k + 1 => adjB wk k || (sL wk k && wk k)
/-- How far the pairs of the second loop reach. -/
def mn (k n : Nat) : Nat := if k + 1 < n then k + 1 else n

theorem sW_bd (k : Nat) : 0 ≤ sW k ∧ sW k ≤ 255 := by unfold sW; split <;> (try split) <;> omega
theorem sW_succ (k : Nat) : pw (sW k) = sW (k + 1) := by
  unfold sW pw
  by_cases h0 : k = 0
  · subst h0; rfl
  · by_cases h1 : k = 1
    · subst h1; rfl
    · simp [h0, h1]
theorem sF_succ (wk : Nat → Bool) (k : Nat) : (if sW k = 0 then wk k else sF wk k) = sF wk (k + 1) := by
  unfold sW sF
  by_cases h0 : k = 0
  · subst h0; rfl
  · by_cases h1 : k = 1 <;> simp [h0, h1]
theorem sL_succ (wk : Nat → Bool) (k : Nat) : wk k = sL wk (k + 1) := by simp [sL]
theorem adj_step (wk : Nat → Bool) (n k : Nat) (h : k < n) (b : Bool) (hb : b = if k + 1 < n then wk k && wk (k + 1) else false) : adjB wk (mn (k + 1) n) = (adjB wk (mn k n) || b) := by
  unfold mn
  by_cases h1 : k + 1 < n
  · rw [if_pos h1] at hb
    rw [if_pos h1]
    have e : adjB wk (k + 1 + 1) = (adjB wk (k + 1) || b) := by rw [hb]; simp [adjB, sL]
    by_cases h2 : k + 1 + 1 < n
    · rw [if_pos h2, e]
    · rw [if_neg h2, ← e]; congr 1; omega
  · rw [if_neg h1] at hb
    rw [if_neg h1, if_neg (by omega), hb]; simp
theorem mn_zero (wk : Nat → Bool) (n : Nat) : adjB wk (mn 0 n) = false := by
  unfold mn
  by_cases h : 0 + 1 < n
  · rw [if_pos h]; rfl
  · rw [if_neg h]
    have : n = 0 ∨ n = 1 := by omega
    rcases this with rfl | rfl <;> rfl
theorem mn_end (n : Nat) : mn n n = n := by unfold mn; rw [if_neg (by omega)]

end Go.Proofs.Ybulkamao
