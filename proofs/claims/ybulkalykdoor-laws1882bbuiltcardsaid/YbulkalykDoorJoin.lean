/-
  The contracts of 'plainIntegerEnd' and of the model at every row of bytes.
-/
import Derived.Test.YbulkalykDoorWalks
import Derived.Test.YbulkalykDoorModelWalks
namespace Go.Proofs.YbulkalykDoor
open Go.RowKit Go.Proofs.YbulkalykDoor.Plain

/-- A row of n bytes lies at the address (or there is none). -/
def Row8 (w : World) (a0 : Option Addr) (n : Nat) (z : Nat → Int) : Prop :=
  n = 0 ∨ ∃ b off, a0 = some ⟨b, off, none⟩ ∧ ∀ k, k < n → w.cell? ⟨b, off + k, none⟩ = some (.int .u8 (z k))

theorem end_past {z : Nat → Int} {n i E : Nat} (h : ¬ i < n) (hE : IsEnd z n (sg z n i) E) : sg z n i = i ∧ E = i := by
  have e : sg z n i = i := by unfold sg; rw [if_neg (by omega)]
  rw [e] at hE
  refine ⟨e, ?_⟩
  rcases Nat.lt_or_ge i E with h' | h'
  · have := hE.2.1 i (Nat.le_refl _) h'; omega
  · have := hE.1; omega

theorem pie_any (a0 : Option Addr) (n cap i E : Nat) (z : Nat → Int) (w : World) (hn : n ≤ 4095) (hi : i ≤ n + 1)
    (hz : ∀ k, 0 ≤ z k ∧ z k ≤ 255) (hr : Row8 w a0 n z) (ht : ∀ k, w.cell? ⟨0, (z k).toNat, none⟩ = some (.bool (endsB (z k))))
    (hE : IsEnd z n (sg z n i) E) :
    Calls Ybad.prog 5 #[.slice a0 n cap, .int .i64 i] w fun e w' => e = .returned (.tuple #[.int .i64 (outE z (sg z n i) E), .bool (outB z n (sg z n i) E)]) ∧ ∃ q, w' = w.drewN q := by
  by_cases hin : i < n
  · rcases hr with h | ⟨b, off, rfl, hc⟩
    · omega
    by_cases h45 : (z i == 45) = true
    · have e : sg z n i = i + 1 := by unfold sg; rw [if_pos ⟨hin, by simpa using h45⟩]
      rw [e] at hE ⊢
      exact pie_minus b off n cap i E z w (by omega) hin hz hc ht h45 hE
    · have e : sg z n i = i := by unfold sg; rw [if_neg (by simp at h45; simp [h45])]
      rw [e] at hE ⊢
      exact pie_plain b off n cap i E z w (by omega) hin hz hc ht (by simpa using h45) hE
  · obtain ⟨e, rfl⟩ := end_past hin hE
    rw [e, (bad_same z n E).1, (bad_same z n E).2]
    exact pie_past a0 n cap E w (by omega) (by omega)

theorem mod_any (a0 : Option Addr) (n cap i E : Nat) (z : Nat → Int) (w : World) (hn : n ≤ 4095) (hi : i ≤ n + 1)
    (hz : ∀ k, 0 ≤ z k ∧ z k ≤ 255) (hr : Row8 w a0 n z)
    (hE : IsEnd z n (sg z n i) E) :
    Calls Ybad.prog 6 #[.slice a0 n cap, .int .i64 i] w fun e w' => e = .returned (.tuple #[.int .i64 (outE z (sg z n i) E), .bool (outB z n (sg z n i) E)]) ∧ w' = w := by
  by_cases hin : i < n
  · rcases hr with h | ⟨b, off, rfl, hc⟩
    · omega
    by_cases h45 : (z i == 45) = true
    · have e : sg z n i = i + 1 := by unfold sg; rw [if_pos ⟨hin, by simpa using h45⟩]
      rw [e] at hE ⊢
      exact mod_minus b off n cap i E z w (by omega) hin hz hc h45 hE
    · have e : sg z n i = i := by unfold sg; rw [if_neg (by simp at h45; simp [h45])]
      rw [e] at hE ⊢
      exact mod_plain b off n cap i E z w (by omega) hin hz hc (by simpa using h45) hE
  · obtain ⟨e, rfl⟩ := end_past hin hE
    rw [e, (bad_same z n E).1, (bad_same z n E).2]
    exact mod_past a0 n cap E w (by omega) (by omega)

/-- THE LAW's WALK. -/
theorem model_walk (a0 : Option Addr) (n cap : Nat) (z : Nat → Int) (x : Int) (w : World) (hx0 : 0 ≤ x) (hx1 : x < 4294967296)
    (hz : ∀ k, 0 ≤ z k ∧ z k ≤ 255) (hr : Row8 w a0 n z) (ht : ∀ k, w.cell? ⟨0, (z k).toNat, none⟩ = some (.bool (endsB (z k)))) (hmax : n ≤ maxLen) :
    Calls Ybad.prog 4 #[.slice a0 n cap, .int .u32 x] w fun e w' => e = .returned (.bool true) ∧ ∃ q, w' = w.drewN q := by
  unfold maxLen at hmax
  by_cases hbig : 1024 < n
  · go_enter Ybad.func4, Ybad.ntmps4
    go_wp2
    go_ret
    exact ⟨rfl, 0, rfl⟩
  · obtain ⟨i, hi⟩ : ∃ i : Nat, x % ((n : Int) + 2) = (i : Int) := ⟨(x % ((n : Int) + 2)).toNat, by have := Int.emod_nonneg x (b := (n : Int) + 2) (by omega); omega⟩
    have hib : i ≤ n + 1 := by have := Int.emod_lt_of_pos x (b := (n : Int) + 2) (by omega); omega
    obtain ⟨E, hE⟩ := IsEnd.ex z n n (sg z n i) (by omega)
    have hn : n ≤ 4095 := by omega
    have cp := pie_any a0 n cap i E z w hn hib hz hr ht hE
    have cm := fun q => mod_any a0 n cap i E z (w.drewN q) hn hib hz (by simpa [Row8] using hr) hE
    obtain ⟨oe, hoe⟩ : ∃ oe, oe = outE z (sg z n i) E := ⟨_, rfl⟩
    obtain ⟨ob, hob⟩ : ∃ ob, ob = outB z n (sg z n i) E := ⟨_, rfl⟩
    rw [← hoe, ← hob] at cp
    simp only [← hoe, ← hob] at cm
    clear hoe hob hr ht hE hz
    go_enter Ybad.func4, Ybad.ntmps4
    go_wp2_with (first | (go_at_call 5; refine cp.mono ?_; rintro e w1 ⟨rfl, q, rfl⟩) | (go_at_call 6; refine (cm _).mono ?_; rintro e w2 ⟨rfl, rfl⟩))
    all_goals
      go_ret
      exact ⟨rfl, _, rfl⟩
end Go.Proofs.YbulkalykDoor
