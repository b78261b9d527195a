/-
  The walk of 'LawS1886BFresh' (6).
-/
import Derived.Test.YbulkamaoCount
namespace Go.Proofs.Ybulkamao
open Go.RowKit

theorem zero_row (w : World) (m : Nat) : (w.alloc (.cells (madeCells #[.int .u64 0] m) 35)).rowIs w.heap.size 35 m (fun j => .int .u64 ((fun _ => 0 : Nat → Nat) j : Nat)) :=
  World.rowIs_made w (.int .u64 0) m 35

def sumS (lo hi k : Nat) : Nat := min hi (64 * k) - lo
theorem sumS_step (lo hi k : Nat) (h : lo < hi) : sumS lo hi (k + 1) = sumS lo hi k + popN (setW lo hi (fun _ => 0) k) := by
  rw [(pop_setW lo hi k h).1]; exact sum_step lo hi k h
theorem sumS_end (lo hi m : Nat) (_h : lo < hi) (h1 : hi ≤ 64 * m) : ((sumS lo hi m : Nat) : Int) = (hi : Int) - (lo : Int) := by unfold sumS; omega

set_option maxHeartbeats 1000000 in
theorem fresh_any (k a c : Int) (w : World) (hk0 : 0 ≤ k) (hk1 : k ≤ 65535) (ha0 : 0 ≤ a) (ha1 : a < 18446744073709551616) (hc0 : 0 ≤ c) (hc1 : c < 18446744073709551616) :
    Calls Yba.prog 6 #[.int .u16 k, .int .u64 a, .int .u64 c] w fun e w' => e = .returned (.bool true) ∧ Below w.heap.size w w' := by
  obtain ⟨s, hs⟩ : ∃ s : Nat, k % 2048 + 1 = (s : Int) := ⟨(k % 2048 + 1).toNat, by omega⟩
  obtain ⟨m, hm⟩ : ∃ m : Nat, (s + 63) / 64 = m := ⟨_, rfl⟩
  have hm0 : 0 < m := by omega
  have hm1 : m ≤ 33 := by omega
  have cn := fun W => new_any s m W hm (by omega)
  obtain ⟨N, hN⟩ : ∃ N : Nat, N = 64 * m := ⟨_, rfl⟩
  obtain ⟨lo, hlo⟩ : ∃ lo : Nat, a % (N : Int) = (lo : Int) := ⟨(a % (N : Int)).toNat, by have := Int.emod_nonneg a (b := (N : Int)) (by omega); omega⟩
  have hlo1 : lo < N := by have := Int.emod_lt_of_pos a (b := (N : Int)) (by omega); omega
  obtain ⟨x, hx⟩ : ∃ x : Nat, c % ((N : Int) - (lo : Int)) = (x : Int) := ⟨(c % ((N : Int) - (lo : Int))).toNat, by have := Int.emod_nonneg c (b := (N : Int) - lo) (by omega); omega⟩
  have hx1 : x < N - lo := by have := Int.emod_lt_of_pos c (b := (N : Int) - lo) (by omega); omega
  have cs := fun W => span_any N lo x a c W (by omega) (by omega) ha0 ha1 hc0 hc1 hlo hx hlo1 hx1
  obtain ⟨hi, hhi⟩ : ∃ hi : Nat, hi = lo + 1 + x := ⟨_, rfl⟩
  rw [← hhi] at cs
  have hlohi : lo < hi := by omega
  have hhin : hi ≤ 64 * m := by omega
  have hNI : (m : Int) * 64 = (N : Int) := by omega
  have hsb : s ≤ 2048 := by omega
  clear hlo hx hhi hx1 hlo1 hN hm
  go_enter Yba.func6, Yba.ntmps6
  go_wp2_with (first
    | (go_at_call 12; refine (cn _).mono ?_; rintro e w1 ⟨rfl, rfl⟩)
    | (go_at_call 10; refine (cs _).mono ?_; rintro e w2 ⟨rfl, hb⟩; have hr2 := (row_below (zero_row w m) hb).alloc (.cells #[.int .i64 lo, .int .i64 hi] 31); have hz2 : w.heap.size < w2.heap.size := by (have := hb.size; simp at this; omega))
    | (go_at_call 11; refine (setSpan_any _ _ _ _ _ _ _ hr2 (fun _ => by decide) hlohi hhin (by omega)).mono ?_; rintro e w3 ⟨rfl, hr3, hg3⟩))
  have t0 : w3.cell? ⟨w2.heap.size, 0, none⟩ = some (.int .i64 lo) := hg3.cell (by simp) (by simp; omega)
  have t1 : w3.cell? ⟨w2.heap.size, 1, none⟩ = some (.int .i64 hi) := hg3.cell (by simp) (by simp; omega)
  have hb3 : Below w.heap.size w w3 := ((((Below.refl _ _).alloc (Nat.le_refl _) _).trans (hb.mono (by simp))).alloc (by omega) _).grown hg3 (by simp; omega) (fun k h => by cases h; exact Nat.le_refl _)
  have cc := count_any w.heap.size m m (fun j => setW lo hi (fun _ => 0) j) (sumS lo hi) w3 hr3 (fun j => setW_lt _ _ _ _ (by decide)) (fun j => (pop_setW lo hi j hlohi).2) (by omega) (by unfold sumS; omega) (fun j => sumS_step lo hi j hlohi) (fun j _ => by unfold sumS; omega)
  have cm := meets_any w.heap.size m m lo hi w3 hr3 hlohi hhin (by omega)
  clear hr2 hg3 cs cn hb
  go_loop [11, 12] (fun t i => ∃ k : Nat, k ≤ m ∧ i = .int .i64 k ∧ t = .int .i64 (sumS lo hi k : Nat)) (fun _ i => m - (intOf i).toNat)
  case atStart => exact ⟨0, Nat.zero_le _, rfl, by unfold sumS; simp⟩
  case round =>
    obtain ⟨k, hk, rfl, rfl⟩ := hrel
    by_cases hlt : k < m
    · have hck := hr3.cell (i := k) hlt
      have hst := sumS_step lo hi k hlohi
      have hb1 : sumS lo hi k ≤ 100000 := by unfold sumS; omega
      have hb2 : sumS lo hi (k + 1) ≤ 100000 := by unfold sumS; omega
      have hxb := setW_lt lo hi (fun _ => 0) k (by decide)
      have hqb := (pop_setW lo hi k hlohi).2
      rw [hst] at hb2
      obtain ⟨x, hx⟩ : ∃ x, setW lo hi (fun _ => 0) k = x := ⟨_, rfl⟩
      obtain ⟨s', hs'⟩ : ∃ s', sumS lo hi k = s' := ⟨_, rfl⟩
      simp only [hx] at hck hxb hqb hst hb2
      rw [hs'] at hst hb1 hb2 ⊢
      have co := fun W => ones_any x W hxb hqb
      obtain ⟨y, hy⟩ : ∃ y, popN x = y := ⟨_, rfl⟩
      simp only [hy] at co hst hb2
      have HE : Hid (sumS lo hi (k + 1) = s' + y) := hst
      clear hs' hy hst hx hxb hqb cc cm hr3
      go_wp2_with (go_at_call 13; refine (co _).mono ?_; rintro e w4 ⟨rfl, rfl⟩)
      go_round
      case rel => exact ⟨k + 1, by omega, by go_num, by rw [HE.out]; go_num⟩
      case measure => simp [intOf]; omega
    · obtain rfl : m = k := by omega
      have hend := sumS_end lo hi m hlohi hhin
      rw [hend] at cc ⊢
      clear hend
      go_wp2_with (first
        | (go_at_call 14; refine cc.mono ?_; rintro e w4 ⟨rfl, rfl⟩)
        | (go_at_call 15; refine cm.mono ?_; rintro e w5 ⟨rfl, hb5⟩))
      go_ret
      exact ⟨rfl, hb3.trans (hb5.mono hb3.size)⟩
end Go.Proofs.Ybulkamao
