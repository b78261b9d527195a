/-
  The walk of 'LawS1886AWalk' (4).
-/
import Derived.Test.YbulkamaoBools
import Derived.Deep.RegionWith
namespace Go.Proofs.Ybulkamao
open Go.RowKit

/-- The state's cells in memory. -/
def StAt (w : World) (B : Nat) (n : Int) (rw adj first last : Bool) : Prop :=
  w.cell? ⟨B, 0, none⟩ = some (.int .u8 n) ∧ w.cell? ⟨B, 1, none⟩ = some (.bool rw) ∧ w.cell? ⟨B, 2, none⟩ = some (.bool adj) ∧ w.cell? ⟨B, 3, none⟩ = some (.bool first) ∧ w.cell? ⟨B, 4, none⟩ = some (.bool last) ∧
  w.frozen? ⟨B, 0, none⟩ = false ∧ w.frozen? ⟨B, 1, none⟩ = false ∧ w.frozen? ⟨B, 2, none⟩ = false ∧ w.frozen? ⟨B, 3, none⟩ = false ∧ w.frozen? ⟨B, 4, none⟩ = false

theorem stAt_below {w w1 : World} {B : Nat} {n : Int} {rw adj first last : Bool} (h : StAt w B n rw adj first last) (hb : Below w.heap.size w w1) (hB : B < w.heap.size) : StAt w1 B n rw adj first last := by
  have c := fun o => hb.cell (p := ⟨B, o, none⟩) hB
  have f := fun o => hb.frozen (p := ⟨B, o, none⟩) hB
  unfold StAt at *
  simp only [c, f]
  exact h

theorem stAt_stored {w : World} {B : Nat} {n : Int} {rw adj first last : Bool} (h : StAt w B n rw adj first last) (n' : Int) (rw' adj' first' last' : Bool) :
    StAt (((((w.setCell ⟨B, 0, none⟩ (.int .u8 n')).setCell ⟨B, 1, none⟩ (.bool rw')).setCell ⟨B, 2, none⟩ (.bool adj')).setCell ⟨B, 3, none⟩ (.bool first')).setCell ⟨B, 4, none⟩ (.bool last')) B n' rw' adj' first' last' := by
  obtain ⟨s0, s1, s2, s3, s4, f0, f1, f2, f3, f4⟩ := h
  refine ⟨?_, ?_, ?_, ?_, ?_, ?_, ?_, ?_, ?_, ?_⟩ <;> go_simp
theorem below5 {A : Nat} {w0 w : World} (h : Below A w0 w) (B : Nat) (hB : A ≤ B) (v0 v1 v2 v3 v4 : Value) :
    Below A w0 (((((w.setCell ⟨B, 0, none⟩ v0).setCell ⟨B, 1, none⟩ v1).setCell ⟨B, 2, none⟩ v2).setCell ⟨B, 3, none⟩ v3).setCell ⟨B, 4, none⟩ v4) :=
  ((((h.setCell hB _).setCell hB _).setCell hB _).setCell hB _).setCell hB _
theorem size5 (w : World) (B : Nat) (v0 v1 v2 v3 v4 : Value) :
    (((((w.setCell ⟨B, 0, none⟩ v0).setCell ⟨B, 1, none⟩ v1).setCell ⟨B, 2, none⟩ v2).setCell ⟨B, 3, none⟩ v3).setCell ⟨B, 4, none⟩ v4).heap.size = w.heap.size := by simp [World.setCell]

theorem any_step (r : Nat → Bool) (j : Nat) (x : Bool) (hx : r j = x) {v : Value} (hv : v = .bool (anyB r j || x)) : v = .bool (anyB r (j + 1)) := by rw [hv, ← hx]; rfl
def pairAt (wk : Nat → Bool) (n j : Nat) : Bool := if j + 1 < n then wk j && wk (j + 1) else false
theorem adj_value (wk : Nat → Bool) (n j : Nat) (h : j < n) (x : Bool) (hx : pairAt wk n j = x) {v : Value} (hv : v = .bool (adjB wk (mn j n) || x)) : v = .bool (adjB wk (mn (j + 1) n)) := by
  rw [hv, adj_step wk n j h x hx.symm]

/-- Is arc k an rw arc? -/
def rOf (nr : Nat) (rb : Nat → Bool) (k : Nat) : Bool := if k < nr then rb k else false

theorem past_step (wk r : Nat → Bool) (k : Nat) (x : Bool) (hx : r k = x) (w : World) :
    Calls Yba.prog 9 #[stV (sW k) (anyB r k) (adjB wk k) (sF wk k) (sL wk k), .bool (wk k), .bool x] w fun e w' =>
      e = .returned (stV (sW (k + 1)) (anyB r (k + 1)) (adjB wk (k + 1)) (sF wk (k + 1)) (sL wk (k + 1))) ∧ Below w.heap.size w w' := by
  have h := past_any (sW k) (anyB r k) (adjB wk k) (sF wk k) (sL wk k) (wk k) x w (sW_bd k).1 (sW_bd k).2
  subst hx
  rw [sW_succ, sF_succ] at h
  rw [← sL_succ]
  exact h

set_option maxHeartbeats 1000000 in
theorem awalk_nil (b off n cap : Nat) (wk : Nat → Bool) (ar : Option Addr) (cr : Nat) (w : World) (hn : n ≤ 1024) (hn0 : 0 < n)
    (hc : ∀ k, k < n → w.cell? ⟨b, off + k, none⟩ = some (.bool (wk k)))  :
    Calls Yba.prog 4 #[.slice (some ⟨b, off, none⟩) n cap, .slice ar 0 cr] w fun e w' => e = .returned (.bool true) ∧ Below w.heap.size w w' := by
  skip
  go_enter Yba.func4, Yba.ntmps4
  go_wp2
  go_loopw [7] (fun i wr => ∃ k : Nat, k ≤ n ∧ i = .int .i64 k ∧ StAt wr w.heap.size (sW k) (anyB (fun _ => false) k) (adjB wk k) (sF wk k) (sL wk k) ∧ Below w.heap.size w wr ∧ w.heap.size < wr.heap.size) (fun i _ => n - (intOf i).toNat)
  case atStart => exact ⟨0, Nat.zero_le _, rfl, by simp [StAt, sW, anyB, adjB, sF, sL], (Below.refl _ _).alloc (Nat.le_refl _) _, by simp⟩
  case round =>
    obtain ⟨k, hk, rfl, hst, hnx, hsz⟩ := hrel
    by_cases hlt : k < n
    · have hck : wr.cell? ⟨b, off + k, none⟩ = some (.bool (wk k)) := cell_later hnx (hc k hlt)
      obtain ⟨s0, s1, s2, s3, s4, f0, f1, f2, f3, f4⟩ := id hst
      have hltI : (k : Int) < n := by omega
      all_goals
        go_wp2
        go_region_with (go_at_call 9; refine (past_step wk (fun _ => false) k _ rfl _).mono ?_; rintro e w1 ⟨rfl, hb⟩; have hst1 := stAt_below (show StAt wr.drew w.heap.size _ _ _ _ _ from hst) hb hsz; obtain ⟨c0, c1, c2, c3, c4, g0, g1, g2, g3, g4⟩ := id hst1)
        all_goals
          go_wp2
          go_roundw
          case rel => exact ⟨k + 1, by omega, by go_num, stAt_stored hst1 _ _ _ _ _, below5 (hnx.drew.trans (hb.mono (Nat.le_of_lt hsz))) _ (Nat.le_refl _) _ _ _ _ _, by rw [size5]; exact Nat.lt_of_lt_of_le hsz hb.size⟩
          case measure => simp [intOf]; omega
    · obtain rfl : n = k := by omega
      obtain ⟨s0, s1, s2, s3, s4, f0, f1, f2, f3, f4⟩ := hst
      have e3 : sF wk n = wk 0 := by unfold sF; rw [if_neg (by omega)]
      have e4 : sL wk n = wk (n - 1) := by unfold sL; rw [if_neg (by omega)]
      rw [e3] at s3
      rw [e4] at s4
      have hw0 : wr.cell? ⟨b, off, none⟩ = some (.bool (wk 0)) := by simpa using cell_later hnx (hc 0 hn0)
      have hwn : wr.cell? ⟨b, off + (n - 1), none⟩ = some (.bool (wk (n - 1))) := cell_later hnx (hc (n - 1) (by omega))
      have e0 : (2 ≤ n ∧ sW n = 2) ∨ (n ≤ 1 ∧ sW n = (n : Int)) := by
        rcases Nat.lt_or_ge n 2 with h | h
        · right; obtain rfl : n = 1 := by omega
          exact ⟨Nat.le_refl _, rfl⟩
        · left; refine ⟨h, ?_⟩; unfold sW; rw [if_neg (by omega), if_neg (by omega)]
      clear e3 e4 f0 f1 f2 f3 f4 hlt hk
      rcases e0 with ⟨hn2, e0⟩ | ⟨hn2, e0⟩
      all_goals
        rw [e0] at s0
        clear e0
        go_wp2
        go_loop [10, 11, 14] (fun rv av i => ∃ j : Nat, j ≤ n ∧ i = .int .i64 j ∧ rv = .bool (anyB (fun _ => false) j) ∧ av = .bool (adjB wk (mn j n))) (fun _ _ i => n - (intOf i).toNat)
        case atStart => exact ⟨0, Nat.zero_le _, rfl, rfl, by rw [mn_zero]⟩
        case round =>
         obtain ⟨j, hj, rfl, rfl, rfl⟩ := hrel
         by_cases hlt2 : j < n
         · · skip
             all_goals
               rcases (Nat.lt_or_ge (j + 1) n) with hj1 | hj1
               · first | (exfalso; omega) | skip
                 all_goals
                   have hcy0 := cell_later hnx (hc j hlt2)
                   have hcz0 := cell_later hnx (hc (j + 1) hj1)
                   obtain ⟨y, hye⟩ : ∃ y, y = wk j := ⟨_, rfl⟩
                   obtain ⟨z, hze⟩ : ∃ z, z = wk (j + 1) := ⟨_, rfl⟩
                   have HY : Hid (pairAt wk n j = (y && z)) := by unfold pairAt; rw [if_pos hj1, ← hye, ← hze]; exact rfl
                   rw [← hye] at hcy0
                   rw [← hze] at hcz0
                   clear hye hze
                   cases y <;> cases z
                   all_goals
                     go_wp2
                     go_round
                     case rel =>
                       first | refine ⟨_, _, _, ⟨j + 1, by omega, ?_, ?_, ?_⟩, rfl, rfl, rfl⟩ | refine ⟨j + 1, by omega, ?_, ?_, ?_⟩
                       · go_num
                       · exact any_step (fun _ => false) j _ (rfl : false = false) (by simp)
                       · exact adj_value wk n j hlt2 _ HY.out (by simp)
                     case measure => simp [intOf]; omega
               · have HY : Hid (pairAt wk n j = false) := by unfold pairAt; rw [if_neg (by omega)]; exact rfl
                 go_wp2
                 go_round
                 case rel =>
                   first | refine ⟨_, _, _, ⟨j + 1, by omega, ?_, ?_, ?_⟩, rfl, rfl, rfl⟩ | refine ⟨j + 1, by omega, ?_, ?_, ?_⟩
                   · go_num
                   · exact any_step (fun _ => false) j _ (rfl : false = false) (by simp)
                   · exact adj_value wk n j hlt2 _ HY.out (by simp)
                 case measure => simp [intOf]; omega
         · obtain rfl : n = j := by omega
           have hmn := mn_end n
           go_wp2
           go_ret
           exact ⟨rfl, hnx⟩

end Go.Proofs.Ybulkamao
