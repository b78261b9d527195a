/-
  The walk of 'nodeSet.holdsAll' (18), in its four cases.
-/
import Derived.Test.YbulkamaoEachSpans
import Derived.Deep.RegionWith
namespace Go.Proofs.Ybulkamao
open Go.RowKit

theorem spv_form {w : World} {base : Nat} {v : Value} {L : List (Nat × Nat)} (h : SpV w base v L) : ∃ ao cap, v = .slice ao L.length cap := by
  rcases h.2 with ⟨rfl, h0⟩ | ⟨g, cap, cur, rfl, _⟩
  · exact ⟨none, 0, by rw [h0]⟩
  · exact ⟨_, cap, rfl⟩

/-- A set held as spans, behind a pointer to block P. -/
def IsSpans (w : World) (P base : Nat) (L : List (Nat × Nat)) : Prop := ∃ v, w.cell? ⟨P, 0, none⟩ = some v ∧ w.cell? ⟨P, 1, none⟩ = some (.slice none 0 0) ∧ SpV w base v L
/-- A set held as words. -/
def IsBits (w : World) (P g m : Nat) (X : Nat → Nat) : Prop := w.cell? ⟨P, 0, none⟩ = some (.slice none 0 0) ∧ w.cell? ⟨P, 1, none⟩ = some (.slice (some ⟨g, 0, none⟩) m m) ∧ w.rowIs g 35 m (fun j => .int .u64 (X j : Nat))
/-- The call answers whether p holds. -/
def Says (e : Ending) (p : Prop) : Prop := ∃ b, e = .returned (.bool b) ∧ (b = true ↔ p)
theorem Says.mk {p : Prop} (b : Bool) (h : b = true ↔ p) : Says (.returned (.bool b)) p := ⟨b, rfl, h⟩
theorem Says.iff {e : Ending} {p q : Prop} (h : Says e p) (hpq : p ↔ q) : Says e q := by
  obtain ⟨b, rfl, hb⟩ := h
  exact ⟨b, rfl, hb.trans hpq⟩

theorem SpV.later {w w' : World} {base : Nat} {v : Value} {L : List (Nat × Nat)} (h : SpV w base v L) (hb : Below w.heap.size w w') : SpV w' base v L :=
  World.ownsRow.kept (row := none) h (grown_below hb) (by
    cases h' : v.ownBlock with
    | none => exact .inl rfl
    | some k => exact .inr (by simp))

/-- The world in which 'holdsAll' begins its work. -/
abbrev atWork (w : World) (P Q : Nat) : World := ((w.alloc (.cells #[.pointer (some ⟨P, 0, none⟩)] 47)).alloc (.cells #[.pointer (some ⟨Q, 0, none⟩)] 47)).alloc (.cells #[.bool true] 4)
theorem atWork_below (w : World) (P Q : Nat) : Below w.heap.size w (atWork w P Q) := (((Below.refl _ _).alloc (Nat.le_refl _) _).alloc (by simp) _).alloc (by simp; omega) _
theorem atWork_size (w : World) (P Q : Nat) : (atWork w P Q).heap.size = w.heap.size + 1 + 1 + 1 := by simp
theorem atWork_all (w : World) (P Q : Nat) : (atWork w P Q).cell? ⟨w.heap.size + 1 + 1, 0, none⟩ = some (.bool true) ∧ (atWork w P Q).frozen? ⟨w.heap.size + 1 + 1, 0, none⟩ = false := by
  constructor <;> go_simp
theorem atWork_s (w : World) (P Q : Nat) : (atWork w P Q).cell? ⟨w.heap.size, 0, none⟩ = some (.pointer (some ⟨P, 0, none⟩)) := by go_simp
theorem atWork_src (w : World) (P Q : Nat) : (atWork w P Q).cell? ⟨w.heap.size + 1, 0, none⟩ = some (.pointer (some ⟨Q, 0, none⟩)) := by go_simp
theorem env_of (w : World) (R gx m Bs : Nat) (X : Nat → Nat) (W : World) (hb : Below w.heap.size w W) (hB : Bs = w.heap.size ∨ Bs = w.heap.size + 1) (hbs : W.cell? ⟨Bs, 0, none⟩ = some (.pointer (some ⟨R, 0, none⟩))) (h : IsBits w R gx m X) : Env W (w.heap.size + 1 + 1) Bs R gx m X := by
  obtain ⟨p0, p1, pr⟩ := h
  have h1 := block_lt_of_cell p1
  have h2 := pr.lt
  simp only at h1
  refine ⟨hbs, cell_later hb p1, pr.of_block (hb.block gx h2), by omega, by omega, by omega⟩

set_option maxHeartbeats 1000000 in
/-- Both are held as words. -/
theorem holds_bb (P Q gx m gy m' n : Nat) (X Y : Nat → Nat) (w : World) (hP : IsBits w P gx m X) (hQ : IsBits w Q gy m' Y) (hX : ∀ j, X j < 18446744073709551616) (hY : ∀ j, Y j < 18446744073709551616) (hm : m' ≤ m) (hm2 : m ≤ 4096) :
    Calls Yba.prog 18 #[.pointer (some ⟨P, 0, none⟩), .pointer (some ⟨Q, 0, none⟩), .int .i64 n] w fun e w' => Says e (∀ i, (i < 64 * m' ∧ memX Y i) → memX X i) ∧ Below w.heap.size w w' := by
  have hb := atWork_below w P Q
  have henv := env_of w P gx m w.heap.size X (atWork w P Q) hb (.inl rfl) (atWork_s w P Q) hP
  obtain ⟨p0, p1, pr⟩ := hP
  obtain ⟨q0, q1, qr⟩ := hQ
  have hPl : P < w.heap.size := block_lt_of_cell p1
  have hQl : Q < w.heap.size := block_lt_of_cell q1
  have hgl := qr.lt
  have ce := each_bits1 (w.heap.size + 1 + 1) w.heap.size P gx m Q gy m' X Y true (atWork w P Q) henv hX hY (atWork_all w P Q).1 (atWork_all w P Q).2 (cell_later hb q0) (cell_later hb q1) (qr.of_block (hb.block gy hgl)) (by omega) (by omega) hm hm2
  clear henv
  have hPl1 : P < w.heap.size + 1 := by omega
  have hQl1 : Q < w.heap.size + 1 := by omega
  have hPl2 : P < w.heap.size + 1 + 1 := by omega
  have hQl2 : Q < w.heap.size + 1 + 1 := by omega
  have hnl := fun (W : World) (a : Option Addr) (k c : Nat) => Lib.run_eql_slice_nil (P := Yba.prog) W 33 35 a k c 0 0 Yba.underlying33
  have hnn := fun (W : World) (a : Option Addr) (k c : Nat) => run_neq_slice_nil_any (P := Yba.prog) W 33 35 a k c 0 0 Yba.underlying33
  go_enter Yba.func18, Yba.ntmps18
  go_wp2_with (go_at_call 22; refine ce.mono ?_; rintro e w4 ⟨rfl, hall⟩; obtain ⟨b, hcb, hfb, hso, hg4⟩ := hall)
  go_ret
  refine ⟨Says.mk b (hso.trans ⟨fun h => h.2, fun h => ⟨rfl, h⟩⟩), hb.grown hg4 (by rw [atWork_size]; omega) (fun k h => by cases h; omega)⟩

set_option maxHeartbeats 1000000 in
/-- The first is held as words, the second as spans. -/
theorem holds_bs (P Q gx m n base : Nat) (X : Nat → Nat) (L : List (Nat × Nat)) (w : World) (hP : IsBits w P gx m X) (hQ : IsSpans w Q base L) (hX : ∀ j, X j < 18446744073709551616) (hfull : ∀ p ∈ L, p.1 < p.2 ∧ p.2 ≤ 64 * m) (hlL : L.length ≤ 300) (hm2 : m ≤ 4096) :
    Calls Yba.prog 18 #[.pointer (some ⟨P, 0, none⟩), .pointer (some ⟨Q, 0, none⟩), .int .i64 n] w fun e w' => Says e (∀ i, memL L i → memX X i) ∧ Below w.heap.size w w' := by
  have hb := atWork_below w P Q
  have henv := env_of w P gx m w.heap.size X (atWork w P Q) hb (.inl rfl) (atWork_s w P Q) hP
  obtain ⟨p0, p1, pr⟩ := hP
  obtain ⟨v, q0, q1, qs⟩ := hQ
  have hPl : P < w.heap.size := block_lt_of_cell p1
  have hQl : Q < w.heap.size := block_lt_of_cell q1
  have hPl1 : P < w.heap.size + 1 := by omega
  have hQl1 : Q < w.heap.size + 1 := by omega
  have hPl2 : P < w.heap.size + 1 + 1 := by omega
  have hQl2 : Q < w.heap.size + 1 + 1 := by omega
  have hnl := fun (W : World) (a : Option Addr) (k c : Nat) => Lib.run_eql_slice_nil (P := Yba.prog) W 33 35 a k c 0 0 Yba.underlying33
  have hnn := fun (W : World) (a : Option Addr) (k c : Nat) => run_neq_slice_nil_any (P := Yba.prog) W 33 35 a k c 0 0 Yba.underlying33
  by_cases hL0 : L.length = 0
  · obtain rfl := List.eq_nil_of_length_eq_zero hL0
    obtain ⟨ao, cap, rfl⟩ := spv_form qs
    have ce := fun f => each_none f Q cap ao (atWork w P Q) (cell_later hb q0) (cell_later hb q1)
    have hall := atWork_all w P Q
    clear henv qs hfull
    go_enter Yba.func18, Yba.ntmps18
    go_wp2_with (go_at_call 22; refine (ce _).mono ?_; rintro e w4 ⟨rfl, rfl⟩)
    go_ret
    exact ⟨Says.mk true ⟨fun _ i h => absurd h (memL_nil i), fun _ => rfl⟩, hb⟩
  · rcases qs.2 with ⟨_, h⟩ | ⟨gl, cL, cur, rfl, _, hcur, _⟩
    · exact absurd h hL0
    have hgl : gl < w.heap.size := by
      rcases Nat.lt_or_ge gl w.heap.size with h | h
      · exact h
      · rw [Array.getElem?_eq_none h] at hcur; cases hcur
    have hAl : w.heap.size + 1 + 1 ≠ gl := by omega
    have hAw : w.heap.size + 1 + 1 < (atWork w P Q).heap.size := by rw [atWork_size]; omega
    have ce := each_spans1 (w.heap.size + 1 + 1) w.heap.size P gx m Q gl cL X L true (atWork w P Q) henv hX (atWork_all w P Q).1 (atWork_all w P Q).2 (cell_later hb q0) (cell_later hb q1) ((spAt_of qs rfl).later hb) (by omega) hfull hAl hm2 hAw
    obtain ⟨lL, elL⟩ : ∃ lL, L.length = lL := ⟨_, rfl⟩
    rw [elL] at q0
    clear henv qs hfull hcur elL
    go_enter Yba.func18, Yba.ntmps18
    go_wp2_with (go_at_call 22; refine ce.mono ?_; rintro e w4 ⟨rfl, hall⟩; obtain ⟨b, hcb, hfb, hso, hg4⟩ := hall)
    go_ret
    refine ⟨Says.mk b (hso.trans ⟨fun h => h.2, fun h => ⟨rfl, h⟩⟩), hb.grown hg4 (by rw [atWork_size]; omega) (fun k h => by cases h; omega)⟩

end Go.Proofs.Ybulkamao
