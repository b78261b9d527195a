/-
  The walks of 'newBitset' (12), 'bitset.count' (14) and 'bitset.meetsSpan' (15).
-/
import Derived.Test.YbulkamaoOnes
import Derived.Test.YbulkamaoBExact
namespace Go.Proofs.Ybulkamao
open Go.RowKit

theorem new_any (s m : Nat) (w : World) (hm : (s + 63) / 64 = m) (hs : s ≤ 100000) :
    Calls Yba.prog 12 #[.int .i64 s] w fun e w' => e = .returned (.slice (some ⟨w.heap.size, 0, none⟩) m m) ∧ w' = w.alloc (.cells (madeCells #[.int .u64 0] m) 35) := by
  have hmk := run_make_row' (P := Yba.prog) 33 35 (.int .u64 0) 8 Yba.underlying33 Yba.info35 rfl .i64 .i64 m (by omega) (by omega)
  have hI : ((s : Int) + 63) / 64 = (m : Int) := by omega
  clear hm
  go_enter Yba.func12, Yba.ntmps12
  go_wp2
  go_ret
  exact ⟨rfl, rfl⟩

set_option maxHeartbeats 400000 in
/-- The count over words whose ones are known. -/
theorem count_any (g m cap : Nat) (X : Nat → Nat) (S : Nat → Nat) (w : World) (hrow : w.rowIs g 35 m (fun j => .int .u64 (X j : Nat))) (hX : ∀ j, X j < 18446744073709551616) (hq : ∀ j, p6 (X j) < 9223372036854775808)
    (hm : m ≤ 4096) (hS0 : S 0 = 0) (hS : ∀ j, S (j + 1) = S j + popN (X j)) (hSb : ∀ j, j ≤ m → S j ≤ 1000000) :
    Calls Yba.prog 14 #[.slice (some ⟨g, 0, none⟩) m cap] w fun e w' => e = .returned (.int .i64 (S m : Nat)) ∧ w' = w := by
  go_enter Yba.func14, Yba.ntmps14
  go_wp2
  go_loop [3, 5, 8] (fun s _ i => ∃ k : Nat, k ≤ m ∧ i = .int .i64 k ∧ s = .int .i64 (S k : Nat)) (fun _ _ i => m - (intOf i).toNat)
  case atStart => exact ⟨0, Nat.zero_le _, rfl, by rw [hS0]; rfl⟩
  case round =>
    obtain ⟨k, hk, rfl, rfl⟩ := hrel
    by_cases hlt : k < m
    · have hck := hrow.cell (i := k) hlt
      have hb1 := hSb k hk
      have hb2 := hSb (k + 1) hlt
      have hst := hS k
      have hxb := hX k
      have hqb := hq k
      rw [hst] at hb2
      obtain ⟨x, hx⟩ : ∃ x, X k = x := ⟨_, rfl⟩
      obtain ⟨s, hs⟩ : ∃ s, S k = s := ⟨_, rfl⟩
      simp only [hx] at hck hxb hqb hst hb2
      rw [hs] at hst hb1 hb2 ⊢
      have co := fun W => ones_any x W hxb hqb
      obtain ⟨y, hy⟩ : ∃ y, popN x = y := ⟨_, rfl⟩
      simp only [hy] at co hst hb2
      have HE : Hid (S (k + 1) = s + y) := hst
      clear hs hS hSb hrow hX hq hS0 hy hst hx hxb hqb
      go_wp2_with (go_at_call 13; refine (co _).mono ?_; rintro e w1 ⟨rfl, rfl⟩)
      go_round
      case rel => exact ⟨k + 1, by omega, by go_num, by rw [HE.out]; go_num⟩
      case measure => simp [intOf]; omega
    · obtain rfl : m = k := by omega
      go_wp2
      go_ret
      exact ⟨rfl, rfl⟩

set_option maxHeartbeats 400000 in
/-- The span lies in one word, and meets it. -/
theorem meets_one (g m cap F hd tl x : Nat) (lo hi : Int) (w : World) (f : Nat → Value) (hrow : w.rowIs g 35 m f) (hfx : f F = .int .u64 (x : Nat)) (hx : x < 18446744073709551616)
    (hhd : hd < 18446744073709551616) (htl : tl < 18446744073709551616) (hF : F < m) (hne : x &&& hd &&& tl ≠ 0)
    (cw : ∀ W, Calls Yba.prog 19 #[.agg #[.int .i64 lo, .int .i64 hi]] W fun e w' => e = .returned (.tuple #[.int .i64 F, .int .i64 F, .int .u64 hd, .int .u64 tl]) ∧ Below W.heap.size W w') :
    Calls Yba.prog 15 #[.slice (some ⟨g, 0, none⟩) m cap, .agg #[.int .i64 lo, .int .i64 hi]] w fun e w' => e = .returned (.bool true) ∧ Below w.heap.size w w' := by
  have hand := u64_and_nat x hd hx hhd
  obtain ⟨y, hy⟩ : ∃ y, x &&& hd = y := ⟨_, rfl⟩
  have hyb : y < 18446744073709551616 := by rw [← hy]; exact and_lt _ hx
  rw [hy] at hand hne
  have hand2 := u64_and_nat y tl hyb htl
  obtain ⟨z, hz⟩ : ∃ z, y &&& tl = z := ⟨_, rfl⟩
  rw [hz] at hand2 hne
  have hzb : ((z : Int) != 0) = true := by simp; omega
  clear hy hz hne
  go_enter Yba.func15, Yba.ntmps15
  go_wp2_with (go_at_call 19; refine (cw _).mono ?_; rintro e w1 ⟨rfl, hb⟩; have hr1 := row_below (hrow.alloc _) hb; have hc1 := hr1.cell (i := F) (by omega); rw [hfx] at hc1)
  go_ret
  exact ⟨rfl, ((Below.refl _ _).alloc (Nat.le_refl _) _).trans (hb.mono (by simp))⟩

set_option maxHeartbeats 400000 in
/-- The span lies in more words than one, and meets the first. -/
theorem meets_two (g m cap F L hd tl x : Nat) (lo hi : Int) (w : World) (f : Nat → Value) (hrow : w.rowIs g 35 m f) (hfx : f F = .int .u64 (x : Nat)) (hx : x < 18446744073709551616)
    (hhd : hd < 18446744073709551616) (hF : F < m) (hFL : F < L) (hne : x &&& hd ≠ 0)
    (cw : ∀ W, Calls Yba.prog 19 #[.agg #[.int .i64 lo, .int .i64 hi]] W fun e w' => e = .returned (.tuple #[.int .i64 F, .int .i64 L, .int .u64 hd, .int .u64 tl]) ∧ Below W.heap.size W w') :
    Calls Yba.prog 15 #[.slice (some ⟨g, 0, none⟩) m cap, .agg #[.int .i64 lo, .int .i64 hi]] w fun e w' => e = .returned (.bool true) ∧ Below w.heap.size w w' := by
  have hand := u64_and_nat x hd hx hhd
  obtain ⟨z, hz⟩ : ∃ z, x &&& hd = z := ⟨_, rfl⟩
  rw [hz] at hand hne
  have hzb : ((z : Int) != 0) = true := by simp; omega
  have hfl : ((F : Int) == (L : Int)) = false := by simp; omega
  clear hz hne
  go_enter Yba.func15, Yba.ntmps15
  go_wp2_with (go_at_call 19; refine (cw _).mono ?_; rintro e w1 ⟨rfl, hb⟩; have hr1 := row_below (hrow.alloc _) hb; have hc1 := hr1.cell (i := F) (by omega); rw [hfx] at hc1)
  go_ret
  exact ⟨rfl, ((Below.refl _ _).alloc (Nat.le_refl _) _).trans (hb.mono (by simp))⟩

theorem meets_any (g m cap lo hi : Nat) (w : World) (hrow : w.rowIs g 35 m (fun j => .int .u64 (setW lo hi (fun _ => 0) j : Nat))) (h0 : lo < hi) (h1 : hi ≤ 64 * m) (hm : m ≤ 4096) :
    Calls Yba.prog 15 #[.slice (some ⟨g, 0, none⟩) m cap, .agg #[.int .i64 lo, .int .i64 hi]] w fun e w' => e = .returned (.bool true) ∧ Below w.heap.size w w' := by
  have cw := fun W => words_any lo hi W h0 (by omega)
  by_cases hs : lo / 64 = (hi - 1) / 64
  · rw [← hs] at cw
    refine meets_one g m cap (lo / 64) _ _ (headN (lo % 64) &&& tailN ((hi - 1) % 64)) lo hi w _ hrow (by simp only [setW, if_pos hs, if_true, Nat.zero_or]) (and_lt _ (headN_lt _)) (headN_lt _) (tailN_lt _) (by omega) (meet_one _ _ (by omega) (by omega)) cw
  · refine meets_two g m cap (lo / 64) ((hi - 1) / 64) _ _ (headN (lo % 64)) lo hi w _ hrow (by simp only [setW, if_neg hs, if_true, Nat.zero_or]) (headN_lt _) (headN_lt _) (by omega) (by omega) (meet_head _ (by omega)) cw
end Go.Proofs.Ybulkamao
