/-
  The walks of 'zzs1886bspan' (10), 'span.words' (19) and 'bitset.setSpan' (11).
-/
import Derived.Test.YbulkamaoChecked
import Derived.Test.YbulkamaoBits
import Derived.WalkKit
import Derived.WalkLawsBesides
import Derived.WalkSpells
import Derived.Deep.QuietTactic
import Derived.BigQuiet
import Derived.Deep.OwnRows
namespace Go.Proofs.Ybulkamao
open Go.RowKit

theorem ret4 {a b c d a' b' c' d' : Int} (h1 : a = a') (h2 : b = b') (h3 : c = c') (h4 : d = d') :
    Ending.returned (.tuple #[.int .i64 a, .int .i64 b, .int .u64 c, .int .u64 d]) = .returned (.tuple #[.int .i64 a', .int .i64 b', .int .u64 c', .int .u64 d']) := by rw [h1, h2, h3, h4]

theorem head_eq (s : Nat) : IntKind.u64.wrap (18446744073709551615 * 2 ^ s) = ((headN s : Nat) : Int) := by
  rw [IntKind.wrap_u64]; unfold headN; simp
theorem tail_eq (t : Nat) : (18446744073709551615 : Int) / 2 ^ (63 - t) = ((tailN t : Nat) : Int) := by
  unfold tailN; simp

set_option maxHeartbeats 400000 in
theorem words_any (lo hi : Nat) (w : World) (h0 : lo < hi) (h1 : hi ≤ 1000000) :
    Calls Yba.prog 19 #[.agg #[.int .i64 lo, .int .i64 hi]] w fun e w' => e = .returned (.tuple #[.int .i64 (lo / 64 : Nat), .int .i64 ((hi - 1) / 64 : Nat), .int .u64 (headN (lo % 64) : Nat), .int .u64 (tailN ((hi - 1) % 64) : Nat)]) ∧ Below w.heap.size w w' := by
  go_enter Yba.func19, Yba.ntmps19
  go_wp2
  go_quiet (fail)
  go_wp2
  go_quiet (fail)
  go_wp2
  refine bodyPost_ret (by simp [results, Yba.results19, go_sem]; rfl) rfl ⟨?_, below_drewN (below_drewN ((Below.refl _ _).alloc (Nat.le_refl _) _) _) _⟩
  exact ret4 (by omega) (by omega) (head_eq _) (tail_eq _)

set_option maxHeartbeats 400000 in
theorem span_any (n lo x : Nat) (a c : Int) (w : World) (hn : 0 < n) (hn1 : n ≤ 1000000) (ha0 : 0 ≤ a) (ha1 : a < 18446744073709551616) (hc0 : 0 ≤ c) (hc1 : c < 18446744073709551616)
    (hlo : a % (n : Int) = (lo : Int)) (hx : c % ((n : Int) - (lo : Int)) = (x : Int)) (hlo1 : lo < n) (hx1 : x < n - lo) :
    Calls Yba.prog 10 #[.int .i64 n, .int .u64 a, .int .u64 c] w fun e w' => e = .returned (.agg #[.int .i64 lo, .int .i64 (lo + 1 + x : Nat)]) ∧ Below w.heap.size w w' := by
  go_enter Yba.func10, Yba.ntmps10
  go_wp2
  refine bodyPost_ret (by simp [results, Yba.results10, go_sem]; rfl) rfl ⟨?_, (Below.refl _ _).alloc (Nat.le_refl _) _⟩
  simp

theorem grown_below {w w' : World} {row : Option Nat} (hb : Below w.heap.size w w') : w.grownBy w' row := ⟨hb.os, hb.tape, hb.output, hb.size, fun k hk _ => hb.block k hk⟩
theorem grown_set (w : World) (b i : Nat) (v : Value) : w.grownBy (w.setCell ⟨b, i, none⟩ v) (some b) :=
  ⟨rfl, rfl, rfl, by simp [World.setCell], fun k _ hne => Below.heap_setCell _ _ _ _ (fun h => hne (by rw [h]))⟩
theorem row_below {w w' : World} {b t n : Nat} {f : Nat → Value} (h : w.rowIs b t n f) (hb : Below w.heap.size w w') : w'.rowIs b t n f := h.of_block (hb.block b h.lt)

set_option maxHeartbeats 1000000 in
/-- The span lies in one word. -/
theorem setSpan_one (g m cap F hd tl : Nat) (v : Value) (lo hi : Int) (X : Nat → Nat) (w : World) (hv : v = .agg #[.int .i64 lo, .int .i64 hi]) (hrow : w.rowIs g 35 m (fun j => .int .u64 (X j : Nat))) (hX : X F < 18446744073709551616)
    (hhd : hd < 18446744073709551616) (htl : tl < 18446744073709551616) (hF : F < m)
    (cw : ∀ W, Calls Yba.prog 19 #[.agg #[.int .i64 lo, .int .i64 hi]] W fun e w' => e = .returned (.tuple #[.int .i64 F, .int .i64 F, .int .u64 hd, .int .u64 tl]) ∧ Below W.heap.size W w') :
    Calls Yba.prog 11 #[.slice (some ⟨g, 0, none⟩) m cap, v] w fun e w' => e = .returned (.tuple #[]) ∧ w'.rowIs g 35 m (fun j => .int .u64 (if j = F then X j ||| (hd &&& tl) else X j : Nat)) ∧ w.grownBy w' (some g) := by
  subst hv
  have hand := u64_and_nat hd tl hhd htl
  have hor := u64_or_nat (X F) (hd &&& tl) hX (and_lt _ hhd)
  go_enter Yba.func11, Yba.ntmps11
  go_wp2_with (go_at_call 19; refine (cw _).mono ?_; rintro e w1 ⟨rfl, hb⟩; have hr1 := row_below (hrow.alloc _) hb; have hc1 := hr1.cell (i := F) (by omega); have hf1 := hr1.frozen F)
  refine bodyPost_ret (results_none rfl _ _ _) rfl ⟨rfl, (hr1.set F _).congr (fun i _ => ?_), ((World.grownBy_alloc w _ _).trans (grown_below hb)).trans (grown_set _ _ _ _)⟩
  by_cases h : i = F
  · subst h; simp
  · simp [h]

/-- The words while the loop runs. -/
def midW (F hd : Nat) (X : Nat → Nat) (k j : Nat) : Nat := if j = F then X j ||| hd else if F < j ∧ j < k then ones else X j

theorem midW_start (F hd : Nat) (X : Nat → Nat) (i : Nat) : (if i = F then Value.int .u64 (X F ||| hd : Nat) else .int .u64 (X i : Nat)) = .int .u64 (midW F hd X (F + 1) i : Nat) := by
  unfold midW
  by_cases h : i = F
  · subst h; simp
  · rw [if_neg h, if_neg h, if_neg (by omega)]
theorem midW_step (F hd : Nat) (X : Nat → Nat) (k i : Nat) (hk : F < k) : (if i = k then Value.int .u64 18446744073709551615 else .int .u64 (midW F hd X k i : Nat)) = .int .u64 (midW F hd X (k + 1) i : Nat) := by
  unfold midW
  by_cases h : i = k
  · subst h; rw [if_pos rfl, if_neg (by omega), if_pos (by omega)]; rfl
  · rw [if_neg h]
    by_cases h2 : i = F
    · rw [if_pos h2, if_pos h2]
    · rw [if_neg h2, if_neg h2]
      by_cases h3 : F < i ∧ i < k
      · rw [if_pos h3, if_pos (by omega)]
      · rw [if_neg h3, if_neg (by omega)]

set_option maxHeartbeats 1000000 in
/-- The span lies in more words than one. -/
theorem setSpan_two (g m cap F L hd tl : Nat) (v : Value) (lo hi : Int) (X : Nat → Nat) (w : World) (hv : v = .agg #[.int .i64 lo, .int .i64 hi]) (hrow : w.rowIs g 35 m (fun j => .int .u64 (X j : Nat))) (hX : ∀ j, X j < 18446744073709551616)
    (hhd : hd < 18446744073709551616) (htl : tl < 18446744073709551616) (hFL : F < L) (hL : L < m) (hm : m ≤ 4096)
    (cw : ∀ W, Calls Yba.prog 19 #[.agg #[.int .i64 lo, .int .i64 hi]] W fun e w' => e = .returned (.tuple #[.int .i64 F, .int .i64 L, .int .u64 hd, .int .u64 tl]) ∧ Below W.heap.size W w') :
    Calls Yba.prog 11 #[.slice (some ⟨g, 0, none⟩) m cap, v] w fun e w' => e = .returned (.tuple #[]) ∧ w'.rowIs g 35 m (fun j => .int .u64 (if j = L then X j ||| tl else midW F hd X L j : Nat)) ∧ w.grownBy w' (some g) := by
  subst hv
  have hor := u64_or_nat (X F) hd (hX F) hhd
  have hor2 := u64_or_nat (X L) tl (hX L) htl
  go_enter Yba.func11, Yba.ntmps11
  go_wp2_with (go_at_call 19; refine (cw _).mono ?_; rintro e w1 ⟨rfl, hb⟩; have hr1 := row_below (hrow.alloc _) hb; have hc1 := hr1.cell (i := F) (by omega); have hf1 := hr1.frozen F)
  have hg1 : w.grownBy (w1.setCell ⟨g, F, none⟩ (.int .u64 (X F ||| hd : Nat))) (some g) := ((World.grownBy_alloc w _ _).trans (grown_below hb)).trans (grown_set _ _ _ _)
  have hr2 : (w1.setCell ⟨g, F, none⟩ (.int .u64 (X F ||| hd : Nat))).rowIs g 35 m (fun j => .int .u64 (midW F hd X (F + 1) j : Nat)) := (hr1.set F _).congr (fun i _ => midW_start F hd X i)
  clear hc1 hf1 hr1
  go_loopw [8] (fun i wr => ∃ k : Nat, F + 1 ≤ k ∧ k ≤ L ∧ i = .int .i64 k ∧ wr.rowIs g 35 m (fun j => .int .u64 (midW F hd X k j : Nat)) ∧ w.grownBy wr (some g)) (fun i _ => L - (intOf i).toNat)
  case atStart => exact ⟨F + 1, Nat.le_refl _, hFL, by go_num, hr2, hg1⟩
  case round =>
    obtain ⟨k, hk1, hk2, rfl, hr, hg⟩ := hrel
    clear hr2 hg1
    by_cases hlt : k < L
    · have hck := hr.cell (i := k) (by omega)
      have hfk := hr.frozen k
      go_wp2
      go_roundw
      case rel => exact ⟨k + 1, by omega, by omega, by go_num, (hr.set k _).congr (fun i _ => midW_step F hd X k i (by omega)), hg.trans (grown_set _ _ _ _)⟩
      case measure => simp [intOf]; omega
    · obtain rfl : L = k := by omega
      have hmid : midW F hd X L L = X L := by unfold midW; rw [if_neg (by omega), if_neg (by omega)]
      have hcL := hr.cell (i := L) (by omega)
      rw [hmid] at hcL
      have hfL := hr.frozen L
      clear hmid
      go_wp2
      refine bodyPost_end (results_none rfl _ _ _) rfl ⟨rfl, (hr.set L _).congr (fun i _ => ?_), hg.trans (grown_set _ _ _ _)⟩
      by_cases h : i = L
      · subst h; simp
      · simp [h]

theorem setSpan_any (g m cap lo hi : Nat) (X : Nat → Nat) (w : World) (hrow : w.rowIs g 35 m (fun j => .int .u64 (X j : Nat))) (hX : ∀ j, X j < 18446744073709551616)
    (h0 : lo < hi) (h1 : hi ≤ 64 * m) (hm : m ≤ 4096) :
    Calls Yba.prog 11 #[.slice (some ⟨g, 0, none⟩) m cap, .agg #[.int .i64 lo, .int .i64 hi]] w fun e w' => e = .returned (.tuple #[]) ∧ w'.rowIs g 35 m (fun j => .int .u64 (setW lo hi X j : Nat)) ∧ w.grownBy w' (some g) := by
  have cw := fun W => words_any lo hi W h0 (by omega)
  by_cases hs : lo / 64 = (hi - 1) / 64
  · rw [← hs] at cw
    refine (setSpan_one g m cap (lo / 64) _ _ _ lo hi X w rfl hrow (hX _) (headN_lt _) (tailN_lt _) (by omega) cw).mono ?_
    rintro e w' ⟨he, hr, hg⟩
    exact ⟨he, hr.congr (fun i _ => by unfold setW; rw [if_pos hs]), hg⟩
  · refine (setSpan_two g m cap (lo / 64) ((hi - 1) / 64) _ _ _ lo hi X w rfl hrow hX (headN_lt _) (tailN_lt _) (by omega) (by omega) hm cw).mono ?_
    rintro e w' ⟨he, hr, hg⟩
    exact ⟨he, hr.congr (fun i _ => by unfold setW midW; rw [if_neg hs]), hg⟩
end Go.Proofs.Ybulkamao
