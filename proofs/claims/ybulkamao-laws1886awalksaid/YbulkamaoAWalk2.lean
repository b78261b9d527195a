/-
  The walk of 'LawS1886AWalk' (4), with a row of rw arcs.
-/
import Derived.Test.YbulkamaoAWalk
namespace Go.Proofs.Ybulkamao
open Go.RowKit

set_option maxHeartbeats 2000000 in
theorem awalk_pos (b off n cap : Nat) (wk : Nat → Bool) (b2 off2 nr cr : Nat) (rb : Nat → Bool) (w : World) (hn : n ≤ 1024) (hn0 : 0 < n)
    (hc : ∀ k, k < n → w.cell? ⟨b, off + k, none⟩ = some (.bool (wk k))) (hcr : ∀ k, k < nr → w.cell? ⟨b2, off2 + k, none⟩ = some (.bool (rb k))) (_hnr : nr ≤ maxLen) :
    Calls Yba.prog 4 #[.slice (some ⟨b, off, none⟩) n cap, .slice (some ⟨b2, off2, none⟩) nr cr] w fun e w' => e = .returned (.bool true) ∧ Below w.heap.size w w' := by
  unfold maxLen at _hnr
  go_enter Yba.func4, Yba.ntmps4
  go_wp2
  go_loopw [7] (fun i wr => ∃ k : Nat, k ≤ n ∧ i = .int .i64 k ∧ StAt wr w.heap.size (sW k) (anyB (rOf nr rb) k) (adjB wk k) (sF wk k) (sL wk k) ∧ Below w.heap.size w wr ∧ w.heap.size < wr.heap.size) (fun i _ => n - (intOf i).toNat)
  case atStart => exact ⟨0, Nat.zero_le _, rfl, by simp [StAt, sW, anyB, adjB, sF, sL], (Below.refl _ _).alloc (Nat.le_refl _) _, by simp⟩
  case round =>
    obtain ⟨k, hk, rfl, hst, hnx, hsz⟩ := hrel
    by_cases hlt : k < n
    · have hck : wr.cell? ⟨b, off + k, none⟩ = some (.bool (wk k)) := cell_later hnx (hc k hlt)
      obtain ⟨s0, s1, s2, s3, s4, f0, f1, f2, f3, f4⟩ := id hst
      have hltI : (k : Int) < n := by omega
      by_cases hkr : k < nr
      · have hcr' : wr.cell? ⟨b2, off2 + k, none⟩ = some (.bool (rb k)) := cell_later hnx (hcr k hkr)
        have HX : Hid (rOf nr rb k = rb k) := by unfold rOf; rw [if_pos hkr]; exact rfl
        go_wp2
        go_region_with (go_at_call 9; refine (past_step wk (rOf nr rb) k _ HX.out _).mono ?_; rintro e w1 ⟨rfl, hb⟩; have hst1 := stAt_below (show StAt wr.drew w.heap.size _ _ _ _ _ from hst) hb hsz; obtain ⟨c0, c1, c2, c3, c4, g0, g1, g2, g3, g4⟩ := id hst1)
        all_goals
          go_wp2
          go_roundw
          case rel => exact ⟨k + 1, by omega, by go_num, stAt_stored hst1 _ _ _ _ _, below5 (hnx.drew.trans (hb.mono (Nat.le_of_lt hsz))) _ (Nat.le_refl _) _ _ _ _ _, by rw [size5]; exact Nat.lt_of_lt_of_le hsz hb.size⟩
          case measure => simp [intOf]; omega
      · have HX : Hid (rOf nr rb k = false) := by unfold rOf; rw [if_neg hkr]; exact rfl
        go_wp2
        go_region_with (go_at_call 9; refine (past_step wk (rOf nr rb) k _ HX.out _).mono ?_; rintro e w1 ⟨rfl, hb⟩; have hst1 := stAt_below (show StAt wr.drew w.heap.size _ _ _ _ _ from hst) hb hsz; obtain ⟨c0, c1, c2, c3, c4, g0, g1, g2, g3, g4⟩ := id hst1)
        all_goals
          go_wp2
          go_roundw
          case rel => exact ⟨k + 1, by omega, by go_num, stAt_stored hst1 _ _ _ _ _, below5 (hnx.drew.trans (hb.mono (Nat.le_of_lt hsz))) _ (Nat.le_refl _) _ _ _ _ _, by rw [size5]; exact Nat.lt_of_lt_of_le hsz hb.size⟩
          case measure => simp [intOf]; omega
    · obtain rfl : n = k := by omega
      obtain ⟨s0, s1, s2, s3, s4, f0, f1, f2, f3, f4⟩ := hst
      have e3 : sF wk n = wk 0 := by unfold sF; rw [if_neg (by omega)]
      have e4 : sL wk n = wk (n - 1) := by unfold sL; rw [if_neg (by omega)]
      rw [e3] at s3
      rw [e4] at s4
      have hw0 : wr.cell? ⟨b, off, none⟩ = some (.bool (wk 0)) := by simpa using cell_later hnx (hc 0 hn0)
      have hwn : wr.cell? ⟨b, off + (n - 1), none⟩ = some (.bool (wk (n - 1))) := cell_later hnx (hc (n - 1) (by omega))
      have e0 : (2 ≤ n ∧ sW n = 2) ∨ (n ≤ 1 ∧ sW n = (n : Int)) := by
        rcases Nat.lt_or_ge n 2 with h | h
        · right; obtain rfl : n = 1 := by omega
          exact ⟨Nat.le_refl _, rfl⟩
        · left; refine ⟨h, ?_⟩; unfold sW; rw [if_neg (by omega), if_neg (by omega)]
      clear e3 e4 f0 f1 f2 f3 f4 hlt hk
      rcases e0 with ⟨hn2, e0⟩ | ⟨hn2, e0⟩
      all_goals
        rw [e0] at s0
        clear e0
        go_wp2
        go_loop [10, 11, 14] (fun rv av i => ∃ j : Nat, j ≤ n ∧ i = .int .i64 j ∧ rv = .bool (anyB (rOf nr rb) j) ∧ av = .bool (adjB wk (mn j n))) (fun _ _ i => n - (intOf i).toNat)
        case atStart => exact ⟨0, Nat.zero_le _, rfl, rfl, by rw [mn_zero]⟩
        case round =>
         obtain ⟨j, hj, rfl, rfl, rfl⟩ := hrel
         by_cases hlt2 : j < n
         · rcases (Nat.lt_or_ge j nr) with hjr | hjr
           · have hcj0 := cell_later hnx (hcr j hjr)
             obtain ⟨x, hxe⟩ : ∃ x, x = rb j := ⟨_, rfl⟩
             have HX : Hid (rOf nr rb j = x) := by unfold rOf; rw [if_pos hjr]; exact hxe.symm
             rw [← hxe] at hcj0
             clear hxe
             cases x
             all_goals
               rcases (Nat.lt_or_ge (j + 1) n) with hj1 | hj1
               · first | (exfalso; omega) | skip
                 all_goals
                   have hcy0 := cell_later hnx (hc j hlt2)
                   have hcz0 := cell_later hnx (hc (j + 1) hj1)
                   obtain ⟨y, hye⟩ : ∃ y, y = wk j := ⟨_, rfl⟩
                   obtain ⟨z, hze⟩ : ∃ z, z = wk (j + 1) := ⟨_, rfl⟩
                   have HY : Hid (pairAt wk n j = (y && z)) := by unfold pairAt; rw [if_pos hj1, ← hye, ← hze]; exact rfl
                   rw [← hye] at hcy0
                   rw [← hze] at hcz0
                   clear hye hze
                   cases y <;> cases z
                   all_goals
                     go_wp2
                     go_round
                     case rel =>
                       first | refine ⟨_, _, _, ⟨j + 1, by omega, ?_, ?_, ?_⟩, rfl, rfl, rfl⟩ | refine ⟨j + 1, by omega, ?_, ?_, ?_⟩
                       · go_num
                       · exact any_step (rOf nr rb) j _ HX.out (by simp)
                       · exact adj_value wk n j hlt2 _ HY.out (by simp)
                     case measure => simp [intOf]; omega
               · have HY : Hid (pairAt wk n j = false) := by unfold pairAt; rw [if_neg (by omega)]; exact rfl
                 go_wp2
                 go_round
                 case rel =>
                   first | refine ⟨_, _, _, ⟨j + 1, by omega, ?_, ?_, ?_⟩, rfl, rfl, rfl⟩ | refine ⟨j + 1, by omega, ?_, ?_, ?_⟩
                   · go_num
                   · exact any_step (rOf nr rb) j _ HX.out (by simp)
                   · exact adj_value wk n j hlt2 _ HY.out (by simp)
                 case measure => simp [intOf]; omega
           · have HX : Hid (rOf nr rb j = false) := by unfold rOf; rw [if_neg (by omega)]; exact rfl
             all_goals
               rcases (Nat.lt_or_ge (j + 1) n) with hj1 | hj1
               · first | (exfalso; omega) | skip
                 all_goals
                   have hcy0 := cell_later hnx (hc j hlt2)
                   have hcz0 := cell_later hnx (hc (j + 1) hj1)
                   obtain ⟨y, hye⟩ : ∃ y, y = wk j := ⟨_, rfl⟩
                   obtain ⟨z, hze⟩ : ∃ z, z = wk (j + 1) := ⟨_, rfl⟩
                   have HY : Hid (pairAt wk n j = (y && z)) := by unfold pairAt; rw [if_pos hj1, ← hye, ← hze]; exact rfl
                   rw [← hye] at hcy0
                   rw [← hze] at hcz0
                   clear hye hze
                   cases y <;> cases z
                   all_goals
                     go_wp2
                     go_round
                     case rel =>
                       first | refine ⟨_, _, _, ⟨j + 1, by omega, ?_, ?_, ?_⟩, rfl, rfl, rfl⟩ | refine ⟨j + 1, by omega, ?_, ?_, ?_⟩
                       · go_num
                       · exact any_step (rOf nr rb) j _ HX.out (by simp)
                       · exact adj_value wk n j hlt2 _ HY.out (by simp)
                     case measure => simp [intOf]; omega
               · have HY : Hid (pairAt wk n j = false) := by unfold pairAt; rw [if_neg (by omega)]; exact rfl
                 go_wp2
                 go_round
                 case rel =>
                   first | refine ⟨_, _, _, ⟨j + 1, by omega, ?_, ?_, ?_⟩, rfl, rfl, rfl⟩ | refine ⟨j + 1, by omega, ?_, ?_, ?_⟩
                   · go_num
                   · exact any_step (rOf nr rb) j _ HX.out (by simp)
                   · exact adj_value wk n j hlt2 _ HY.out (by simp)
                 case measure => simp [intOf]; omega
         · obtain rfl : n = j := by omega
           have hmn := mn_end n
           go_wp2
           go_ret
           exact ⟨rfl, hnx⟩

end Go.Proofs.Ybulkamao
