/-
  The walk of 'zzs1886cmake' (17), the set held as spans.
-/
import Derived.Test.YbulkamaoSets
import Derived.Test.YbulkamaoSpans
namespace Go.Proofs.Ybulkamao
open Go.RowKit

theorem Yba.info31 : (Yba.prog.info? 31).map (fun i => (i.zero, i.size, i.bytes)) = some (some (.agg #[.int .i64 0, .int .i64 0]), 2, 16) := by kernel_rfl

/-- A list of spans as it lies in memory. -/
def spCells : List (Nat × Nat) → List Value
  | [] => []
  | p :: L => .int .i64 (p.1 : Nat) :: .int .i64 (p.2 : Nat) :: spCells L
theorem spCells_append (L M : List (Nat × Nat)) : spCells (L ++ M) = spCells L ++ spCells M := by
  induction L with
  | nil => rfl
  | cons p L ih => simp [spCells, ih]
theorem spCells_len (L : List (Nat × Nat)) : (spCells L).length = L.length * 2 := by
  induction L with
  | nil => rfl
  | cons p L ih => simp [spCells, ih]; omega
theorem spCells_at (L : List (Nat × Nat)) (j : Nat) (h : j < L.length) : (spCells L)[2 * j]? = some (.int .i64 (L[j].1 : Nat)) ∧ (spCells L)[2 * j + 1]? = some (.int .i64 (L[j].2 : Nat)) := by
  induction L generalizing j with
  | nil => simp at h
  | cons p L ih =>
    cases j with
    | zero => exact ⟨rfl, rfl⟩
    | succ j =>
      have := ih j (by simpa using h)
      have e : 2 * (j + 1) = 2 * j + 1 + 1 := by omega
      rw [e]
      exact this

/-- The runs of members below k. -/
def Runs (z : Nat → Bool) (k : Nat) (R : List (Nat × Nat)) : Prop :=
  Asc 0 R ∧ (∀ p ∈ R, p.2 ≤ k) ∧ (∀ i, memL R i ↔ i < k ∧ z i = true) ∧ R.length ≤ k
theorem Asc.snoc {b : Nat} : ∀ {R : List (Nat × Nat)} {k j : Nat}, Asc b R → (∀ p ∈ R, p.2 ≤ k) → b ≤ k → k < j → Asc b (R ++ [(k, j)]) := by
  intro R
  induction R generalizing b with
  | nil => intro k j _ _ h1 h2; exact ⟨h1, h2, trivial⟩
  | cons p R ih =>
    intro k j h hp h1 h2
    exact ⟨h.1, h.2.1, ih h.2.2 (fun q hq => hp q (by simp [hq])) (hp p (by simp)) h2⟩
theorem Runs.zero (z : Nat → Bool) : Runs z 0 [] := ⟨trivial, by simp, fun i => by have := memL_nil i; simp [this], Nat.le_refl _⟩
theorem Runs.skip {z : Nat → Bool} {k : Nat} {R : List (Nat × Nat)} (h : Runs z k R) (hz : z k = false) : Runs z (k + 1) R := by
  obtain ⟨h1, h2, h3, h4⟩ := h
  refine ⟨h1, fun p hp => by have := h2 p hp; omega, fun i => ?_, by omega⟩
  rw [h3 i]
  constructor
  · rintro ⟨a, b⟩; exact ⟨by omega, b⟩
  · rintro ⟨a, b⟩
    by_cases e : i = k
    · subst e; rw [hz] at b; cases b
    · exact ⟨by omega, b⟩
theorem Runs.run {z : Nat → Bool} {k j : Nat} {R : List (Nat × Nat)} (h : Runs z k R) (hkj : k < j) (hz : ∀ i, k ≤ i → i < j → z i = true) : Runs z j (R ++ [(k, j)]) := by
  obtain ⟨h1, h2, h3, h4⟩ := h
  refine ⟨h1.snoc h2 (Nat.zero_le _) hkj, fun p hp => ?_, fun i => ?_, by simp; omega⟩
  · rcases List.mem_append.1 hp with hp | hp
    · have := h2 p hp; omega
    · simp at hp; subst hp; exact Nat.le_refl _
  · rw [memL_append, memL_cons, h3 i]
    have h0 := memL_nil i
    simp only [h0, or_false]
    constructor
    · rintro (⟨a, b⟩ | ⟨a, b⟩)
      · exact ⟨by omega, b⟩
      · exact ⟨b, hz i a b⟩
    · rintro ⟨a, b⟩
      by_cases e : i < k
      · exact .inl ⟨e, b⟩
      · exact .inr ⟨by omega, a⟩

/-- A slice value that reads as this list of spans. -/
def SpV (w : World) (base : Nat) (v : Value) (L : List (Nat × Nat)) : Prop := w.ownsRow base 31 2 v L.length (spCells L)

theorem two_one {a b : Int} : ∀ u ∈ [Value.int .i64 a, Value.int .i64 b], u.oneCell' = true := by
  intro u hu
  simp at hu
  rcases hu with rfl | rfl <;> rfl
theorem own_snoc {w : World} {base : Nat} {v : Value} {R : List (Nat × Nat)} {k j : Nat} (h : w.ownsRow base 31 2 v (R.length + 1) (spCells R ++ [.int .i64 (k : Nat), .int .i64 (j : Nat)])) : SpV w base v (R ++ [(k, j)]) := by
  unfold SpV
  rw [spCells_append, List.length_append]
  exact h
theorem below_app {w wr w1 : World} {v : Value} {n : Nat} {xs : List Value} {o : Obj} (hnx : Below w.heap.size w wr) (hown : wr.ownsRow w.heap.size 31 2 v n xs) (hg : (wr.alloc o).grownBy w1 v.ownBlock) : Below w.heap.size w w1 :=
  (hnx.alloc hnx.size o).grown hg (Nat.le_trans hnx.size (by simp)) (fun k h => (hown.lt k h).1)

set_option maxHeartbeats 1000000 in
theorem makeSpans_any (g n : Nat) (z : Nat → Bool) (w : World) (hrow : w.rowIs g 4 n (fun j => .bool (z j))) (hn : n ≤ 300) :
    Calls Yba.prog 17 #[.slice (some ⟨g, 0, none⟩) n n, .bool false] w fun e w' => ∃ (Q : Nat) (v : Value) (L : List (Nat × Nat)), e = .returned (.pointer (some ⟨Q, 0, none⟩)) ∧ w.heap.size ≤ Q ∧
      w'.cell? ⟨Q, 0, none⟩ = some v ∧ w'.cell? ⟨Q, 1, none⟩ = some (.slice none 0 0) ∧ SpV w' w.heap.size v L ∧ Runs z n L ∧ Below w.heap.size w w' := by
  obtain ⟨i0, hi, hz0, hz1, hz2⟩ := info_parts Yba.info31
  go_enter Yba.func17, Yba.ntmps17
  go_wp2
  go_loopw [8, 9, 10] (fun v i _ wr => ∃ (k : Nat) (R : List (Nat × Nat)), k ≤ n ∧ i = .int .i64 k ∧ SpV wr w.heap.size v R ∧ Runs z k R ∧ Below w.heap.size w wr) (fun _ i _ _ => n - (intOf i).toNat)
  case atStart => exact ⟨0, [], Nat.zero_le _, rfl, World.ownsRow_nil _ _ _ _, Runs.zero z, Below.refl _ _⟩
  case round =>
    obtain ⟨k, R, hk, rfl, hown, hruns, hnx⟩ := hrel
    have hlenR := hruns.2.2.2
    by_cases hlt : k < n
    · have hown' : wr.ownsRow w.heap.size 31 2 _ R.length (spCells R) := hown
      have HR : Hid (Runs z k R) := hruns
      clear hruns hown
      have hck := cell_later hnx (hrow.cell (i := k) hlt)
      obtain ⟨b, hb⟩ : ∃ b, z k = b := ⟨_, rfl⟩
      simp only [hb] at hck
      have HB : Hid (z k = b) := hb
      clear hb
      cases b
      · go_wp2
        go_roundw
        case rel => exact ⟨k + 1, R, by omega, by go_num, hown', (HR.out).skip HB.out, hnx⟩
        case measure => simp [intOf]; omega
      · go_wp2
        go_loop [10] (fun jv => ∃ j : Nat, k ≤ j ∧ j ≤ n ∧ jv = .int .i64 j ∧ (∀ i, k ≤ i → i < j → z i = true)) (fun jv => n - (intOf jv).toNat)
        case atStart => exact ⟨k, Nat.le_refl _, hk, rfl, fun i h1 h2 => by omega⟩
        case round =>
          obtain ⟨j, hj1, hj2, rfl, hzs⟩ := hrel
          by_cases hjn : j < n
          · have hcj := cell_later hnx (hrow.cell (i := j) hjn)
            obtain ⟨c, hc⟩ : ∃ c, z j = c := ⟨_, rfl⟩
            simp only [hc] at hcj
            have HC : Hid (z j = c) := hc
            clear hc
            cases c
            · have hkj : k < j := by
                rcases Nat.lt_or_ge k j with h | h
                · exact h
                · have e : k = j := by omega
                  have h1 := HB.out
                  have h2 := HC.out
                  rw [e, h2] at h1; cases h1
              have HZ : Hid (∀ i, k ≤ i → i < j → z i = true) := hzs
              clear hzs
              go_wp2_with (at_builtin; refine wpList_append_own _ rfl (.tmp 64) (.tmp 68) 54 rfl w.heap.size 31 i0 (.agg #[.int .i64 0, .int .i64 0]) 2 16 Yba.underlying54 hi hz0 hz1 hz2 rfl (by decide) _ _ _ rfl (hown'.alloc _) ⟨wr.heap.size, 0, none⟩ 1 1 [.int .i64 (k : Nat), .int .i64 (j : Nat)] rfl rfl (cell_two_new _ _ _ _) two_one (by unfold maxLen; omega) (by omega) (Nat.le_trans hnx.size (by simp)) ?_; intro v' w1 hown1 hgrow1 _)
              go_roundw
              case rel => exact ⟨j, R ++ [(k, j)], hj2, rfl, own_snoc hown1, (HR.out).run hkj HZ.out, below_app hnx hown' hgrow1⟩
              case measure => simp [intOf]; omega
            · have HZ : Hid (∀ i, k ≤ i → i < j → z i = true) := hzs
              clear hzs
              go_wp2
              go_round
              case rel => exact ⟨j + 1, by omega, by omega, by go_num, fun i h1 h2 => by
                by_cases e : i = j
                · subst e; exact HC.out
                · exact HZ.out i h1 (by omega)⟩
              case measure => simp [intOf]; omega
          · have hkj : k < j := by omega
            have HZ : Hid (∀ i, k ≤ i → i < j → z i = true) := hzs
            clear hzs
            go_wp2_with (at_builtin; refine wpList_append_own _ rfl (.tmp 64) (.tmp 68) 54 rfl w.heap.size 31 i0 (.agg #[.int .i64 0, .int .i64 0]) 2 16 Yba.underlying54 hi hz0 hz1 hz2 rfl (by decide) _ _ _ rfl (hown'.alloc _) ⟨wr.heap.size, 0, none⟩ 1 1 [.int .i64 (k : Nat), .int .i64 (j : Nat)] rfl rfl (cell_two_new _ _ _ _) two_one (by unfold maxLen; omega) (by omega) (Nat.le_trans hnx.size (by simp)) ?_; intro v' w1 hown1 hgrow1 _)
            go_roundw
            case rel => exact ⟨j, R ++ [(k, j)], hj2, rfl, own_snoc hown1, (HR.out).run hkj HZ.out, below_app hnx hown' hgrow1⟩
            case measure => simp [intOf]; omega
    · obtain rfl : n = k := by omega
      rcases hown.2 with ⟨rfl, hR⟩ | ⟨g1, cap1, cur, rfl, _⟩
      all_goals
        go_wp2
        go_ret
        refine ⟨wr.heap.size, _, R, rfl, hnx.size, ?_, ?_, World.ownsRow.alloc hown _, hruns, hnx.alloc hnx.size _⟩
        all_goals go_simp
end Go.Proofs.Ybulkamao
