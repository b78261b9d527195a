/-
  The walk of 'LawS1886BExact' (5).
-/
import Derived.Test.YbulkamaoWords
import Derived.Laws.CopyOwn
namespace Go.Proofs.Ybulkamao
open Go.RowKit

theorem Yba.info35 : (Yba.prog.info? 35).map (fun i => (i.zero, i.size, i.bytes)) = some (some (.int .u64 0), 1, 8) := by kernel_rfl

theorem bit_val (x s : Nat) (hx : x < 18446744073709551616) : bits .and .u64 ((x : Int) / 2 ^ s) 1 = if x.testBit s = true then 1 else 0 := by
  have e1 : (x : Int) / 2 ^ s = ((x / 2 ^ s : Nat) : Int) := by simp
  have h := u64_and_nat (x / 2 ^ s) 1 (Nat.lt_of_le_of_lt (Nat.div_le_self _ _) hx) (by decide)
  rw [e1]
  have h' : bits .and .u64 ((x / 2 ^ s : Nat) : Int) 1 = ((x / 2 ^ s &&& 1 : Nat) : Int) := h
  rw [h', nat_mask1, Nat.testBit_eq_decide_div_mod_eq]
  by_cases hb : x / 2 ^ s % 2 = 1
  · simp [hb]
  · have : x / 2 ^ s % 2 = 0 := by omega
    simp [this]
theorem made_at (w : World) (z : Value) (n : Nat) (t : TypeId) (g : Nat) (hg : g = w.heap.size) : (w.alloc (.cells (madeCells #[z] n) t)).rowIs g t n (fun _ => z) := by
  subst hg; exact World.rowIs_made w z n t
theorem range_at {α : Type} (n : Nat) (f : Nat → α) (j : Nat) (v : α) (h : ((List.range n).map f)[j]? = some v) : j < n ∧ v = f j := by
  have hj : j < n := by have := (List.getElem?_eq_some_iff.1 h).1; simpa using this
  refine ⟨hj, ?_⟩
  rw [List.getElem?_map, List.getElem?_range hj] at h
  simpa using h.symm

/-- 'copy' of n cells onto a whole row of n that the call made. -/
theorem wpList_copy_whole {P : Program} {w : World} {ops : Array Oper} {rest : List Oper} {o : Oper} {a : Act} {Q : Exit → Act → World → Prop} (hgd : o.guard = none) (d s : Operand) (dT sT : TypeId)
    (ho : o.op = .call { callee := .builtin .copy, args := #[d, s], argTypes := #[dT, sT] }) (elem : TypeId) (hu : P.underlying dT = some (.slice elem)) (hsz : (P.info? elem).map (·.size) = some 1)
    (g n cap : Nat) (b off sCap : Nat) (hd : a.eval d = .slice (some ⟨g, 0, none⟩) n cap) (hs : a.eval s = .slice (some ⟨b, off, none⟩) n sCap)
    (t : TypeId) (f src : Nat → Value) (hrow : w.rowIs g t n f) (hsrc : ∀ j, j < n → w.cell? ⟨b, off + j, none⟩ = some (src j)) (h1 : ∀ j, (src j).oneCell' = true)
    (h : ∀ w', w'.rowIs g t n src → w.grownBy w' (some g) → wpList P ops Q rest (a.put o.dst (goInt n)) w') : wpList P ops Q (o :: rest) a w := by
  obtain ⟨cur, hg, hsize, _⟩ := hrow
  have hl : ((List.range n).map src).length = n := by simp
  refine wpList_copy_own hgd d s dT sT ho elem hu hsz g 0 n cap ⟨b, off, none⟩ n sCap hd hs cur t hg ((List.range n).map src) (by simp) (fun j v hj => ?_) (by simp [hsize]) (fun v hv => ?_) ?_
  · obtain ⟨hjn, rfl⟩ := range_at n src j v hj
    rw [Addr.add_lit]
    exact hsrc j hjn
  · obtain ⟨j, _, rfl⟩ := List.mem_map.1 hv
    exact h1 j
  · rw [hl]
    refine h _ ⟨_, setRow_heap w g cur _ t _ hg, by simp [hsize], fun i hi => ?_⟩ ⟨rfl, rfl, rfl, by simp [World.setRow], fun k _ hne => setRow_other w g k _ (fun e => hne (by rw [e]))⟩
    simp [List.getElem?_append, hi]

set_option maxHeartbeats 1000000 in
theorem exact_pos (b off n cap : Nat) (X : Nat → Nat) (a c : Int) (w : World) (hn : n ≤ 1024) (hn0 : 0 < n) (hX : ∀ j, X j < 18446744073709551616)
    (hc : ∀ k, k < n → w.cell? ⟨b, off + k, none⟩ = some (.int .u64 (X k : Nat))) (ha0 : 0 ≤ a) (ha1 : a < 18446744073709551616) (hc0 : 0 ≤ c) (hc1 : c < 18446744073709551616) :
    Calls Yba.prog 5 #[.slice (some ⟨b, off, none⟩) n cap, .int .u64 a, .int .u64 c] w fun e w' => e = .returned (.bool true) ∧ Below w.heap.size w w' := by
  obtain ⟨N, hN⟩ : ∃ N : Nat, N = 64 * n := ⟨_, rfl⟩
  obtain ⟨lo, hlo⟩ : ∃ lo : Nat, a % (N : Int) = (lo : Int) := ⟨(a % (N : Int)).toNat, by have := Int.emod_nonneg a (b := (N : Int)) (by omega); omega⟩
  have hlo1 : lo < N := by have := Int.emod_lt_of_pos a (b := (N : Int)) (by omega); omega
  obtain ⟨x, hx⟩ : ∃ x : Nat, c % ((N : Int) - (lo : Int)) = (x : Int) := ⟨(c % ((N : Int) - (lo : Int))).toNat, by have := Int.emod_nonneg c (b := (N : Int) - lo) (by omega); omega⟩
  have hx1 : x < N - lo := by have := Int.emod_lt_of_pos c (b := (N : Int) - lo) (by omega); omega
  have cs := fun W => span_any N lo x a c W (by omega) (by omega) ha0 ha1 hc0 hc1 hlo hx hlo1 hx1
  obtain ⟨hi, hhi⟩ : ∃ hi : Nat, hi = lo + 1 + x := ⟨_, rfl⟩
  rw [← hhi] at cs
  have hlohi : lo < hi := by omega
  have hhin : hi ≤ 64 * n := by omega
  have hNI : (n : Int) * 64 = (N : Int) := by omega
  clear hlo hx hhi hx1 hlo1
  clear hN
  have hmk := run_make_row' (P := Yba.prog) 33 35 (.int .u64 0) 8 Yba.underlying33 Yba.info35 rfl .i64 .i64 n (by omega) (by omega)
  go_enter Yba.func5, Yba.ntmps5
  go_wp2_with (first
    | (go_at_call 10; refine (cs _).mono ?_; rintro e w1 ⟨rfl, hb⟩; have tok : True := trivial)
    | (go_at_call 11; refine (setSpan_any _ _ _ _ _ X _ hr2 hX hlohi hhin (by omega)).mono ?_; rintro e w3 ⟨rfl, hr3, hg3⟩; have t0 : w3.cell? ⟨w1.heap.size, 0, none⟩ = some (.int .i64 lo) := hg3.cell s0 (by simp); have t1 : w3.cell? ⟨w1.heap.size, 1, none⟩ = some (.int .i64 hi) := hg3.cell s1 (by simp))
    | (have _t := tok; refine wpList_copy_whole rfl (.tmp 29) (.tmp 30) 33 28 rfl 35 Yba.underlying33 (by kernel_rfl) _ n _ b off _ rfl rfl 35 _ (fun j => .int .u64 (X j : Nat)) (made_at _ _ _ _ _ (by simp)) (fun j hj => cell_later ((hb.alloc hb.size _).alloc (Nat.le_trans hb.size (by simp)) _) (hc j hj)) (fun _ => rfl) ?_; intro w2 hr2 hg2; clear tok; have s0 : w2.cell? ⟨w1.heap.size, 0, none⟩ = some (.int .i64 lo) := hg2.cell (by simp) (by simp); have s1 : w2.cell? ⟨w1.heap.size, 1, none⟩ = some (.int .i64 hi) := hg2.cell (by simp) (by simp)))
  have hb3 : Below w.heap.size w w3 := (((hb.alloc hb.size _).alloc (Nat.le_trans hb.size (by simp)) _).grown hg2 (by simp; have := hb.size; omega) (fun k h => by cases h; have := hb.size; omega)).grown hg3 (Nat.le_trans (Nat.le_trans hb.size (by simp; omega)) hg2.size) (fun k h => by cases h; have := hb.size; omega)
  clear s0 s1 hr2 hg2 hg3 cs hmk
  go_loop [10, 11, 12, 13] (fun i _ _ _ => ∃ k : Nat, k ≤ N ∧ i = .int .i64 k) (fun i _ _ _ => N - (intOf i).toNat)
  case atStart => exact ⟨0, Nat.zero_le _, rfl⟩
  case round =>
    obtain ⟨k, hk, rfl⟩ := hrel
    by_cases hlt : k < N
    · obtain ⟨x, hx⟩ : ∃ x, x = X (k / 64) := ⟨_, rfl⟩
      obtain ⟨y, hy⟩ : ∃ y, y = setW lo hi X (k / 64) := ⟨_, rfl⟩
      have hcw : w3.cell? ⟨b, off + k / 64, none⟩ = some (.int .u64 (x : Nat)) := by rw [hx]; exact cell_later hb3 (hc (k / 64) (by omega))
      have hcb : w3.cell? ⟨w1.heap.size + 1, k / 64, none⟩ = some (.int .u64 (y : Nat)) := by rw [hy]; exact hr3.cell (by omega)
      have hxb : x < 18446744073709551616 := by rw [hx]; exact hX _
      have hyb : y < 18446744073709551616 := by rw [hy]; exact setW_lt _ _ _ _ (hX _)
      have hbit := setW_bit lo hi X (k / 64) (k % 64) hlohi (by omega)
      rw [← hx, ← hy, Nat.div_add_mod] at hbit
      have hvx := bit_val x (k % 64) hxb
      have hvy := bit_val y (k % 64) hyb
      rw [hbit] at hvy
      clear hx hy hbit hxb hyb
      cases hox : x.testBit (k % 64)
      all_goals
        rw [hox] at hvx hvy
        clear hox
        have h3 : (¬ lo ≤ k ∧ k < hi) ∨ (lo ≤ k ∧ k < hi) ∨ (lo ≤ k ∧ ¬ k < hi) := by omega
        rcases h3 with ⟨h1, h2⟩ | ⟨h1, h2⟩ | ⟨h1, h2⟩
        all_goals
          simp [h1, h2] at hvx hvy
          go_wp2
          go_round
          case rel => exact ⟨k + 1, by omega, by go_num⟩
          case measure => simp [intOf]; omega
    · go_wp2
      go_ret
      exact ⟨rfl, hb3⟩
end Go.Proofs.Ybulkamao
