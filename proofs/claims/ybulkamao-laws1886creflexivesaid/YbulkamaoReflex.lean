/-
  The walk of 'LawS1886CReflexive' (8).
-/
import Derived.Test.YbulkamaoSubset
namespace Go.Proofs.Ybulkamao
open Go.RowKit

theorem holds_true (P Q n : Nat) (s t : Nat → Bool) (w : World) (hP : SetIs w P n s) (hQ : SetIs w Q n t) (hn : n ≤ 300) (h : ∀ i, i < n → t i = true → s i = true) :
    Calls Yba.prog 18 #[.pointer (some ⟨P, 0, none⟩), .pointer (some ⟨Q, 0, none⟩), .int .i64 n] w fun e w' => e = .returned (.bool true) ∧ Below w.heap.size w w' := by
  refine (holds_any P Q n s t w hP hQ hn).mono ?_
  rintro e w' ⟨⟨b, rfl, hb⟩, hb'⟩
  exact ⟨by rw [hb.2 h], hb'⟩

set_option maxHeartbeats 2000000 in
theorem reflex_any (N : Int) (n : Nat) (aS aT : Option Addr) (lS cS lT cT : Nat) (sub sb tb : Bool) (s t : Nat → Bool) (w : World) (hN0 : 0 ≤ N) (hN1 : N ≤ 65535) (hn : N % 300 = (n : Int))
    (hS : RowBs w aS lS s) (hT : RowBs w aT lT t) :
    Calls Yba.prog 8 #[inV N aS lS cS aT lT cT sub sb tb] w fun e w' => e = .returned (.bool true) ∧ Below w.heap.size w w' := by
  have hnb : n < 300 := by omega
  have hb1 : Below w.heap.size w (w.alloc (.cells #[.int .u16 N, .slice aS lS cS, .slice aT lT cT, .bool sub, .bool sb, .bool tb] 44)) := (Below.refl _ _).alloc (Nat.le_refl _) _
  by_cases hs1 : lS ≤ 1024
  · by_cases ht1 : lT ≤ 1024
    · have hsets := sets_ex N n aS aT lS cS lT cT sub sb tb s t _ hN0 hN1 hn (hS.later hb1) (hT.later hb1)
      have hc4 : (w.alloc (.cells #[.int .u16 N, .slice aS lS cS, .slice aT lT cT, .bool sub, .bool sb, .bool tb] 44)).cell? ⟨w.heap.size, 4, none⟩ = some (.bool sb) := by go_simp
      have hc5 : (w.alloc (.cells #[.int .u16 N, .slice aS lS cS, .slice aT lT cT, .bool sub, .bool sb, .bool tb] 44)).cell? ⟨w.heap.size, 5, none⟩ = some (.bool tb) := by go_simp
      have hmk := run_make_row' (P := Yba.prog) 26 4 (.bool false) 1 Yba.underlying26 Yba.info4 rfl .i64 .i64 n (by omega) (by omega)
      clear hn hS hT
      go_enter Yba.func8, Yba.ntmps8
      go_wp2_with (go_at_call 16; refine hsets.mono ?_; rintro e w2 ⟨g1, g2, S, T, rfl, hr1, hr2, hg2⟩; have hd4 := cell_later hg2 hc4; have hd5 := cell_later hg2 hc5)
      refine (make_any g1 n S sb w2 hr1 (by omega)).mono ?_
      rintro e w3 ⟨P, rfl, hP, hg3⟩
      have he5 := cell_later hg3 hd5
      have hr31 := hr1.of_block (hg3.block g1 hr1.lt)
      go_wp2_with fail
      refine (make_any g1 n S tb w3 hr31 (by omega)).mono ?_
      rintro e w4 ⟨Q, rfl, hQ, hg4⟩
      have hf5 := cell_later hg4 he5
      have hlt5 : w.heap.size < w4.heap.size := block_lt_of_cell hf5
      have hP4 := hP.later hg4
      have hb2 := hb1.trans (hg2.mono hb1.size)
      have hb3 := hb2.trans (hg3.mono hb2.size)
      have hb4 := hb3.trans (hg4.mono hb3.size)
      have hb5 : Below w4.heap.size w4 (w4.drew.alloc (.cells (madeCells #[.bool false] n) 4)) := (Below.refl _ _).drew.alloc (Nat.le_refl _) _
      have hmake := make_any w4.heap.size n (fun _ => false) tb (w4.drew.alloc (.cells (madeCells #[.bool false] n) 4)) (rowMade w4.drew (.bool false) n 4 _ rfl) (by omega)
      clear hr1 hr2 hr31 hc4 hc5 hd4 hd5 he5 hsets hb1 hb2 hb3 hg2 hg3 hg4 hP
      go_wp2_with fail
      go_region_with (go_at_call 17; refine hmake.mono ?_; rintro e w6 ⟨R, rfl, hR, hg6⟩)
      all_goals
        have hb6 := hb5.trans (hg6.mono hb5.size)
        have hP6 := hP4.later hb6
        have hQ6 := hQ.later hb6
        have h1 := holds_true P Q n S S w6 hP6 hQ6 (by omega) (fun _ _ h => h)
        go_wp2_with fail
        refine h1.mono ?_
        rintro e w7 ⟨rfl, hg7⟩
        go_wp2_with fail
        refine (holds_true P R n S (fun _ => false) w7 (hP6.later hg7) (hR.later hg7) (by omega) (fun _ _ h => by cases h)).mono ?_
        rintro e w8 ⟨rfl, hg8⟩
        go_wp2
        go_ret
        have hb46 := hb4.trans (hb6.mono hb4.size)
        have hb47 := hb46.trans (hg7.mono hb46.size)
        exact ⟨rfl, hb47.trans (hg8.mono hb47.size)⟩
    · clear hS hT hn
      have ht2 : 1024 < lT := by omega
      go_enter Yba.func8, Yba.ntmps8
      go_wp2
      go_ret
      exact ⟨rfl, hb1⟩
  · clear hS hT hn
    have hs2 : 1024 < lS := by omega
    go_enter Yba.func8, Yba.ntmps8
    go_wp2
    go_ret
    exact ⟨rfl, hb1⟩

end Go.Proofs.Ybulkamao
