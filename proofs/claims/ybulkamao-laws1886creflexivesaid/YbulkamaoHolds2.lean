/-
  The walk of 'nodeSet.holdsAll' (18), the first held as spans.
-/
import Derived.Test.YbulkamaoHolds
namespace Go.Proofs.Ybulkamao
open Go.RowKit

/-- The one span of all nodes, in its own block. -/
theorem spv_all (W : World) (g n : Nat) (hg : g = W.heap.size) : SpV (W.alloc (.cells #[.int .i64 0, .int .i64 n] 31)) g (.slice (some ⟨g, 0, none⟩) 1 1) [(0, n)] := by
  subst hg
  exact World.ownsRow_lit W _ 1 (Nat.le_refl _) (by decide) rfl

theorem all_zero (L : List (Nat × Nat)) : minus [(0, 0)] L = [] := by
  have h : ∀ A, cuts 0 0 A = [] := fun A => by cases A <;> simp [cuts]
  simp [minus, h]
/-- What the gaps hold. -/
theorem gaps_mem (n : Nat) (L : List (Nat × Nat)) (hasc : Asc 0 L) (i : Nat) : memL (minus [(0, n)] L) i ↔ i < n ∧ ¬ memL L i := by
  rcases Nat.eq_zero_or_pos n with h0 | h0
  · subst h0
    rw [all_zero]
    exact ⟨fun h => absurd h (memL_nil i), fun h => absurd h.1 (Nat.not_lt_zero i)⟩
  · rw [minus_mem [(0, n)] L 0 0 ⟨Nat.le_refl _, h0, trivial⟩ hasc i, memL_cons]
    constructor
    · rintro ⟨h | h, k⟩
      · exact ⟨h.2, k⟩
      · exact absurd h (memL_nil i)
    · rintro ⟨h, k⟩
      exact ⟨.inl ⟨Nat.zero_le _, h⟩, k⟩

set_option maxHeartbeats 1000000 in
/-- The first is held as spans, the second as words: the gaps of the first hold nothing of the second. -/
theorem holds_sb (P Q gy m n base : Nat) (Y : Nat → Nat) (L : List (Nat × Nat)) (w : World) (hP : IsSpans w P base L) (hQ : IsBits w Q gy m Y) (hY : ∀ j, Y j < 18446744073709551616) (hlL : L.length ≤ 300) (hn : n ≤ 64 * m) (hasc : Asc 0 L) (hm2 : m ≤ 4096) :
    Calls Yba.prog 18 #[.pointer (some ⟨P, 0, none⟩), .pointer (some ⟨Q, 0, none⟩), .int .i64 n] w fun e w' => Says e (∀ i, memL (minus [(0, n)] L) i → ¬ memX Y i) ∧ Below w.heap.size w w' := by
  have hb := atWork_below w P Q
  have hb4 : Below w.heap.size w ((atWork w P Q).alloc (.cells #[.int .i64 0, .int .i64 n] 31)) := hb.alloc (by rw [atWork_size]; omega) _
  obtain ⟨v, p0, p1, ps⟩ := hP
  have hm := minus_any _ base _ v [(0, n)] L _ (spv_all (atWork w P Q) (w.heap.size + 1 + 1 + 1) n (atWork_size w P Q).symm) (ps.later hb4) (by simp) hlL
  have hQ' := hQ
  obtain ⟨q0, q1, qr⟩ := hQ
  have hPl : P < w.heap.size := block_lt_of_cell p1
  have hQl : Q < w.heap.size := block_lt_of_cell q1
  have hPl1 : P < w.heap.size + 1 := by omega
  have hQl1 : Q < w.heap.size + 1 := by omega
  have hPl2 : P < w.heap.size + 1 + 1 := by omega
  have hQl2 : Q < w.heap.size + 1 + 1 := by omega
  have hnl := fun (W : World) (a : Option Addr) (k c : Nat) => Lib.run_eql_slice_nil (P := Yba.prog) W 33 35 a k c 0 0 Yba.underlying33
  have hnn := fun (W : World) (a : Option Addr) (k c : Nat) => run_neq_slice_nil_any (P := Yba.prog) W 33 35 a k c 0 0 Yba.underlying33
  have hall4 : ((atWork w P Q).alloc (.cells #[.int .i64 0, .int .i64 n] 31)).cell? ⟨w.heap.size + 1 + 1, 0, none⟩ = some (.bool true) := by go_simp
  have hfr4 : ((atWork w P Q).alloc (.cells #[.int .i64 0, .int .i64 n] 31)).frozen? ⟨w.heap.size + 1 + 1, 0, none⟩ = false := by go_simp
  have hsr4 : ((atWork w P Q).alloc (.cells #[.int .i64 0, .int .i64 n] 31)).cell? ⟨w.heap.size + 1, 0, none⟩ = some (.pointer (some ⟨Q, 0, none⟩)) := by go_simp
  have hsz4 : ((atWork w P Q).alloc (.cells #[.int .i64 0, .int .i64 n] 31)).heap.size = w.heap.size + 1 + 1 + 1 + 1 := by simp
  by_cases hG : (minus [(0, n)] L).length = 0
  · clear hfr4 hsr4
    go_enter Yba.func18, Yba.ntmps18
    go_wp2_with (go_at_call 21; refine hm.mono ?_; rintro e w5 ⟨v2, rfl, hsp, hg5⟩; obtain ⟨ao, cap, rfl⟩ := spv_form hsp; rw [hG])
    have hb5 := hb4.trans (hg5.mono hb4.size)
    have hall5 : w5.cell? ⟨w.heap.size + 1 + 1, 0, none⟩ = some (.bool true) := cell_later hg5 hall4
    have hal : w.heap.size + 1 + 1 < w5.heap.size := block_lt_of_cell hall5
    go_wp2_with (go_at_call 22; refine (each_none _ w5.heap.size cap ao _ (by go_simp) (by go_simp)).mono ?_; rintro e w6 ⟨rfl, rfl⟩)
    go_ret
    have hnil := List.eq_nil_of_length_eq_zero hG
    rw [hnil]
    exact ⟨Says.mk true ⟨fun _ i h => absurd h (memL_nil i), fun _ => rfl⟩, hb5.alloc (by omega) _⟩
  · have hfull : ∀ p ∈ minus [(0, n)] L, p.1 < p.2 ∧ p.2 ≤ 64 * m := by
      intro p hp
      have h1 := minus_full _ _ p hp
      have h2 : memL (minus [(0, n)] L) (p.2 - 1) := ⟨p, hp, by omega, by omega⟩
      have h3 := (gaps_mem n L hasc _).1 h2
      omega
    have hlen := minus_len [(0, n)] L 300 hlL
    simp only [List.length_singleton, Nat.one_mul] at hlen
    obtain ⟨G, eG⟩ : ∃ G, minus [(0, n)] L = G := ⟨_, rfl⟩
    rw [eG] at hm hG hfull hlen ⊢
    clear eG
    go_enter Yba.func18, Yba.ntmps18
    go_wp2_with (go_at_call 21; refine hm.mono ?_; rintro e w5 ⟨v2, rfl, hsp, hg5⟩; rcases hsp.2 with ⟨_, h⟩ | ⟨gl, cL, cur, rfl, hgl, hcur, _⟩; focus (exact absurd h hG))
    have hb5 := hb4.trans (hg5.mono hb4.size)
    have hsz5 := hg5.size
    rw [hsz4] at hgl hsz5
    have hall5 := cell_later hg5 hall4
    have hal : w.heap.size + 1 + 1 < w5.heap.size := by omega
    have hb6 : Below w.heap.size w (w5.alloc (.cells #[.slice (some ⟨gl, 0, none⟩) G.length cL, .slice none 0 0] 56)) := hb5.alloc (by omega) _
    have hb56 : Below w5.heap.size w5 (w5.alloc (.cells #[.slice (some ⟨gl, 0, none⟩) G.length cL, .slice none 0 0] 56)) := (Below.refl _ _).alloc (Nat.le_refl _) _
    have henv := env_of w Q gy m (w.heap.size + 1) Y _ hb6 (.inr rfl) (cell_later hb56 (cell_later hg5 hsr4)) hQ'
    have ce := each_spans2 (w.heap.size + 1 + 1) (w.heap.size + 1) Q gy m w5.heap.size gl cL Y G true _ henv hY (cell_later hb56 hall5) ((hb56.frozen hal).trans ((hg5.frozen (by rw [hsz4]; exact Nat.lt_succ_of_lt (Nat.lt_succ_self _))).trans hfr4)) (by go_simp) (by go_simp) ((spAt_of hsp rfl).later hb56) (by omega) hfull (by omega) hm2 (by simp; omega)
    go_wp2_with (go_at_call 22; refine ce.mono ?_; rintro e w6 ⟨rfl, hall⟩; obtain ⟨b, hcb, hfb, hso, hg6⟩ := hall)
    go_ret
    refine ⟨Says.mk b (hso.trans ⟨fun h => h.2, fun h => ⟨rfl, h⟩⟩), hb6.grown hg6 (by simp; omega) (fun k h => by cases h; omega)⟩

theorem len_none (G : List (Nat × Nat)) : ((((G.length : Nat) : Int) == 0) = true) ↔ G = [] := by
  rw [beq_iff_eq]
  constructor
  · intro h
    exact List.eq_nil_of_length_eq_zero (by omega)
  · rintro rfl
    rfl

set_option maxHeartbeats 1000000 in
/-- Both are held as spans. -/
theorem holds_ss (P Q n base base' : Nat) (L M : List (Nat × Nat)) (w : World) (hP : IsSpans w P base L) (hQ : IsSpans w Q base' M) (hlL : L.length ≤ 300) (hlM : M.length ≤ 300) :
    Calls Yba.prog 18 #[.pointer (some ⟨P, 0, none⟩), .pointer (some ⟨Q, 0, none⟩), .int .i64 n] w fun e w' => Says e (minus M L = []) ∧ Below w.heap.size w w' := by
  have hb := (atWork_below w P Q).drew
  obtain ⟨v, p0, p1, ps⟩ := hP
  obtain ⟨u, q0, q1, qs⟩ := hQ
  have hm := minus_any base' base u v M L (atWork w P Q).drew (qs.later hb) (ps.later hb) hlM hlL
  have hPl : P < w.heap.size := block_lt_of_cell p1
  have hQl : Q < w.heap.size := block_lt_of_cell q1
  have hPl1 : P < w.heap.size + 1 := by omega
  have hQl1 : Q < w.heap.size + 1 := by omega
  have hPl2 : P < w.heap.size + 1 + 1 := by omega
  have hQl2 : Q < w.heap.size + 1 + 1 := by omega
  have hnl := fun (W : World) (a : Option Addr) (k c : Nat) => Lib.run_eql_slice_nil (P := Yba.prog) W 33 35 a k c 0 0 Yba.underlying33
  have hnn := fun (W : World) (a : Option Addr) (k c : Nat) => run_neq_slice_nil_any (P := Yba.prog) W 33 35 a k c 0 0 Yba.underlying33
  clear ps qs
  go_enter Yba.func18, Yba.ntmps18
  go_wp2_with fail
  go_region_with (go_at_call 21; refine hm.mono ?_; rintro e w5 ⟨v2, rfl, hsp, hg5⟩; obtain ⟨ao, cap, rfl⟩ := spv_form hsp)
  all_goals
    go_wp2
    go_ret
    exact ⟨Says.mk _ (len_none _), hb.trans (hg5.mono hb.size)⟩

end Go.Proofs.Ybulkamao
