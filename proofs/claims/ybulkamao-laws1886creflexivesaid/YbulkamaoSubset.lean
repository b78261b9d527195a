/-
  The walk of 'LawS1886CSubset' (7).
-/
import Derived.Test.YbulkamaoSetIs
namespace Go.Proofs.Ybulkamao
open Go.RowKit

/-- Every member of t below k is one of s. -/
def subB (s t : Nat → Bool) : Nat → Bool
  | 0 => true
  | k + 1 => if t k = true ∧ s k = false then false else subB s t k
theorem subB_iff (s t : Nat → Bool) (n : Nat) : subB s t n = true ↔ ∀ i, i < n → t i = true → s i = true := by
  induction n with
  | zero => exact ⟨fun _ i h => absurd h (Nat.not_lt_zero i), fun _ => rfl⟩
  | succ n ih =>
    unfold subB
    by_cases h : t n = true ∧ s n = false
    · rw [if_pos h]
      constructor
      · intro h; cases h
      · intro k
        have := k n (Nat.lt_succ_self n) h.1
        rw [h.2] at this
        cases this
    · rw [if_neg h, ih]
      constructor
      · intro k i hi ht
        by_cases e : i = n
        · subst e
          cases hs : s i with
          | true => rfl
          | false => exact absurd ⟨ht, hs⟩ h
        · exact k i (by omega) ht
      · intro k i hi ht
        exact k i (by omega) ht
theorem says_eq {e : Ending} {s t : Nat → Bool} {n : Nat} (h : Says e (∀ i, i < n → t i = true → s i = true)) : e = .returned (.bool (subB s t n)) := by
  obtain ⟨b, rfl, hb⟩ := h
  have : b = subB s t n := by
    have := hb.trans (subB_iff s t n).symm
    cases b <;> cases h : subB s t n <;> simp_all
  rw [this]

theorem sets_ex (N : Int) (n : Nat) (aS aT : Option Addr) (lS cS lT cT : Nat) (sub sb tb : Bool) (s t : Nat → Bool) (w : World) (hN0 : 0 ≤ N) (hN1 : N ≤ 65535) (hn : N % 300 = (n : Int))
    (hS : RowBs w aS lS s) (hT : RowBs w aT lT t) :
    Calls Yba.prog 16 #[inV N aS lS cS aT lT cT sub sb tb] w fun e w' => ∃ (g1 g2 : Nat) (S T : Nat → Bool),
      e = .returned (.tuple #[.int .i64 n, .slice (some ⟨g1, 0, none⟩) n n, .slice (some ⟨g2, 0, none⟩) n n]) ∧
      w'.rowIs g1 4 n (fun j => .bool (S j)) ∧ w'.rowIs g2 4 n (fun j => .bool (T j)) ∧ Below w.heap.size w w' := by
  refine (sets_any N n aS aT lS cS lT cT sub sb tb s t w hN0 hN1 hn hS hT).mono ?_
  rintro e w' ⟨h0, h1, h2, h3⟩
  exact ⟨_, _, _, _, h0, h1, h2, h3⟩
theorem subB_keep (s t : Nat → Bool) (k : Nat) (h : ¬ (t k = true ∧ s k = false)) : subB s t k = subB s t (k + 1) := by
  conv => rhs; unfold subB
  rw [if_neg h]
theorem subB_drop (s t : Nat → Bool) (k : Nat) (h : t k = true ∧ s k = false) : false = subB s t (k + 1) := by
  conv => rhs; unfold subB
  rw [if_pos h]

set_option maxHeartbeats 1000000 in
theorem subset_any (N : Int) (n : Nat) (aS aT : Option Addr) (lS cS lT cT : Nat) (sub sb tb : Bool) (s t : Nat → Bool) (w : World) (hN0 : 0 ≤ N) (hN1 : N ≤ 65535) (hn : N % 300 = (n : Int))
    (hS : RowBs w aS lS s) (hT : RowBs w aT lT t) :
    Calls Yba.prog 7 #[inV N aS lS cS aT lT cT sub sb tb] w fun e w' => e = .returned (.bool true) ∧ Below w.heap.size w w' := by
  have hnb : n < 300 := by omega
  have hb1 : Below w.heap.size w (w.alloc (.cells #[.int .u16 N, .slice aS lS cS, .slice aT lT cT, .bool sub, .bool sb, .bool tb] 44)) := (Below.refl _ _).alloc (Nat.le_refl _) _
  by_cases hs1 : lS ≤ 1024
  · by_cases ht1 : lT ≤ 1024
    · have hsets := sets_ex N n aS aT lS cS lT cT sub sb tb s t _ hN0 hN1 hn (hS.later hb1) (hT.later hb1)
      have hc4 : (w.alloc (.cells #[.int .u16 N, .slice aS lS cS, .slice aT lT cT, .bool sub, .bool sb, .bool tb] 44)).cell? ⟨w.heap.size, 4, none⟩ = some (.bool sb) := by go_simp
      have hc5 : (w.alloc (.cells #[.int .u16 N, .slice aS lS cS, .slice aT lT cT, .bool sub, .bool sb, .bool tb] 44)).cell? ⟨w.heap.size, 5, none⟩ = some (.bool tb) := by go_simp
      clear hn hS hT
      go_enter Yba.func7, Yba.ntmps7
      go_wp2_with (go_at_call 16; refine hsets.mono ?_; rintro e w2 ⟨g1, g2, S, T, rfl, hr1, hr2, hg2⟩; have hd4 := cell_later hg2 hc4; have hd5 := cell_later hg2 hc5)
      refine (make_any g1 n S sb w2 hr1 (by omega)).mono ?_
      rintro e w3 ⟨P, rfl, hP, hg3⟩
      have he5 := cell_later hg3 hd5
      have hr3 := hr2.of_block (hg3.block g2 hr2.lt)
      have hr31 := hr1.of_block (hg3.block g1 hr1.lt)
      go_wp2_with fail
      refine (make_any g2 n T tb w3 hr3 (by omega)).mono ?_
      rintro e w4 ⟨Q, rfl, hQ, hg4⟩
      have hr4 := hr3.of_block (hg4.block g2 hr3.lt)
      have hr41 := hr31.of_block (hg4.block g1 hr31.lt)
      have hP4 := hP.later hg4
      have hb2 := hb1.trans (hg2.mono hb1.size)
      have hb3 := hb2.trans (hg3.mono hb2.size)
      have hb4 := hb3.trans (hg4.mono hb3.size)
      clear hr1 hr2 hr3 hr31 hc4 hc5 hd4 hd5 he5 hsets hb1 hb2 hb3 hg2 hg3 hg4 hP
      go_wp2_with fail
      go_loop [8, 9] (fun v i => ∃ k : Nat, k ≤ n ∧ i = .int .i64 k ∧ v = .bool (subB S T k)) (fun _ i => n - (intOf i).toNat)
      case atStart => exact ⟨0, Nat.zero_le _, rfl, rfl⟩
      case round =>
        obtain ⟨k, hk, rfl, rfl⟩ := hrel
        by_cases hlt : k < n
        · have hcs := hr41.cell (i := k) hlt
          have hct := hr4.cell (i := k) hlt
          obtain ⟨x, hx⟩ : ∃ x, S k = x := ⟨_, rfl⟩
          obtain ⟨y, hy⟩ : ∃ y, T k = y := ⟨_, rfl⟩
          simp only [hx] at hcs
          simp only [hy] at hct
          have HX : Hid (S k = x) := hx
          have HY : Hid (T k = y) := hy
          clear hx hy
          cases y
          · go_wp2
            go_round
            case rel => exact ⟨k + 1, by omega, by go_num, by rw [← subB_keep S T k (fun h => by rw [HY.out] at h; cases h.1)]⟩
            case measure => simp [intOf]; omega
          · cases x
            · go_wp2
              go_round
              case rel => exact ⟨k + 1, by omega, by go_num, by rw [← subB_drop S T k ⟨HY.out, HX.out⟩]⟩
              case measure => simp [intOf]; omega
            · go_wp2
              go_round
              case rel => exact ⟨k + 1, by omega, by go_num, by rw [← subB_keep S T k (fun h => by rw [HX.out] at h; cases h.2)]⟩
              case measure => simp [intOf]; omega
        · obtain rfl : n = k := by omega
          have hh := holds_any P Q n S T w4 hP4 hQ (by omega)
          go_wp2_with (go_at_call 18; refine hh.mono ?_; rintro e w5 ⟨hsay, hg5⟩; obtain rfl := says_eq hsay)
          go_ret
          exact ⟨by simp, hb4.trans (hg5.mono hb4.size)⟩
    · clear hS hT hn
      have ht2 : 1024 < lT := by omega
      go_enter Yba.func7, Yba.ntmps7
      go_wp2
      go_ret
      exact ⟨rfl, hb1⟩
  · clear hS hT hn
    have hs2 : 1024 < lS := by omega
    go_enter Yba.func7, Yba.ntmps7
    go_wp2
    go_ret
    exact ⟨rfl, hb1⟩

end Go.Proofs.Ybulkamao
