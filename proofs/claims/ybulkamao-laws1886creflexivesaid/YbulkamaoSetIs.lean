/-
  A node set, however it is held: making it, and asking whether one holds all of another.
-/
import Derived.Test.YbulkamaoHolds2
import Derived.Test.YbulkamaoMakeBits
namespace Go.Proofs.Ybulkamao
open Go.RowKit

/-- The set behind the pointer to block P holds, of the n nodes, those of z. -/
def SetIs (w : World) (P n : Nat) (z : Nat → Bool) : Prop :=
  (∃ base L, IsSpans w P base L ∧ Runs z n L) ∨ (∃ g, IsBits w P g ((n + 63) / 64) (bitsW z n))

theorem SetIs.later {w w' : World} {P n : Nat} {z : Nat → Bool} (h : SetIs w P n z) (hb : Below w.heap.size w w') : SetIs w' P n z := by
  rcases h with ⟨base, L, ⟨v, h0, h1, h2⟩, hr⟩ | ⟨g, h0, h1, h2⟩
  · exact .inl ⟨base, L, ⟨v, cell_later hb h0, cell_later hb h1, h2.later hb⟩, hr⟩
  · exact .inr ⟨g, cell_later hb h0, cell_later hb h1, h2.of_block (hb.block g h2.lt)⟩

theorem make_any (g n : Nat) (z : Nat → Bool) (flag : Bool) (w : World) (hrow : w.rowIs g 4 n (fun j => .bool (z j))) (hn : n ≤ 300) :
    Calls Yba.prog 17 #[.slice (some ⟨g, 0, none⟩) n n, .bool flag] w fun e w' => ∃ P : Nat, e = .returned (.pointer (some ⟨P, 0, none⟩)) ∧ SetIs w' P n z ∧ Below w.heap.size w w' := by
  cases flag with
  | true =>
    refine (makeBits_any g n ((n + 63) / 64) z w hrow hn rfl).mono ?_
    rintro e w' ⟨rfl, h0, h1, h2, hb⟩
    exact ⟨_, rfl, .inr ⟨_, h0, h1, h2⟩, hb⟩
  | false =>
    refine (makeSpans_any g n z w hrow hn).mono ?_
    rintro e w' ⟨Q, v, L, rfl, _, h0, h1, h2, hr, hb⟩
    exact ⟨Q, rfl, .inl ⟨_, L, ⟨v, h0, h1, h2⟩, hr⟩, hb⟩

theorem Asc.full : ∀ {L : List (Nat × Nat)} {b : Nat}, Asc b L → ∀ p ∈ L, p.1 < p.2 := by
  intro L
  induction L with
  | nil => intro b _ p hp; cases hp
  | cons q L ih =>
    intro b h p hp
    rcases List.mem_cons.1 hp with rfl | hp
    · exact h.2.1
    · exact ih h.2.2 p hp
theorem memX_bits (z : Nat → Bool) (n i : Nat) : memX (bitsW z n) i ↔ i < n ∧ z i = true := by
  unfold memX
  rw [bitsW_bit z n (i / 64) (i % 64) (Nat.mod_lt _ (by decide)), Nat.div_add_mod]
  simp

theorem holds_any (P Q n : Nat) (s t : Nat → Bool) (w : World) (hP : SetIs w P n s) (hQ : SetIs w Q n t) (hn : n ≤ 300) :
    Calls Yba.prog 18 #[.pointer (some ⟨P, 0, none⟩), .pointer (some ⟨Q, 0, none⟩), .int .i64 n] w fun e w' => Says e (∀ i, i < n → t i = true → s i = true) ∧ Below w.heap.size w w' := by
  rcases hP with ⟨base, L, hP, hr1, hr2, hr3, hr4⟩ | ⟨gx, hP⟩
  · rcases hQ with ⟨base', M, hQ, hs1, hs2, hs3, hs4⟩ | ⟨gy, hQ⟩
    · refine (holds_ss P Q n base base' L M w hP hQ (by omega) (by omega)).mono ?_
      rintro e w' ⟨h, hb⟩
      refine ⟨h.iff ?_, hb⟩
      rw [empty_of_none (minus_full M L)]
      constructor
      · intro h i hi ht
        by_cases hs : s i = true
        · exact hs
        · exact absurd ((minus_mem M L 0 0 hs1 hr1 i).2 ⟨(hs3 i).2 ⟨hi, ht⟩, fun k => hs ((hr3 i).1 k).2⟩) (h i)
      · intro h i hm
        obtain ⟨h1, h2⟩ := (minus_mem M L 0 0 hs1 hr1 i).1 hm
        obtain ⟨h3, h4⟩ := (hs3 i).1 h1
        exact h2 ((hr3 i).2 ⟨h3, h i h3 h4⟩)
    · refine (holds_sb P Q gy ((n + 63) / 64) n base (bitsW t n) L w hP hQ (bitsW_lt t n) (by omega) (by omega) hr1 (by omega)).mono ?_
      rintro e w' ⟨h, hb⟩
      refine ⟨h.iff ?_, hb⟩
      constructor
      · intro h i hi ht
        by_cases hs : s i = true
        · exact hs
        · exact absurd ((memX_bits t n i).2 ⟨hi, ht⟩) (h i ((gaps_mem n L hr1 i).2 ⟨hi, fun k => hs ((hr3 i).1 k).2⟩))
      · intro h i hm hx
        obtain ⟨h1, h2⟩ := (gaps_mem n L hr1 i).1 hm
        exact h2 ((hr3 i).2 ⟨h1, h i h1 ((memX_bits t n i).1 hx).2⟩)
  · rcases hQ with ⟨base', M, hQ, hs1, hs2, hs3, hs4⟩ | ⟨gy, hQ⟩
    · have hfull : ∀ p ∈ M, p.1 < p.2 ∧ p.2 ≤ 64 * ((n + 63) / 64) := by
        intro p hp
        have h1 := hs2 p hp
        have h2 := Asc.full hs1 p hp
        omega
      refine (holds_bs P Q gx ((n + 63) / 64) n base' (bitsW s n) M w hP hQ (bitsW_lt s n) hfull (by omega) (by omega)).mono ?_
      rintro e w' ⟨h, hb⟩
      refine ⟨h.iff ?_, hb⟩
      constructor
      · intro h i hi ht
        exact ((memX_bits s n i).1 (h i ((hs3 i).2 ⟨hi, ht⟩))).2
      · intro h i hm
        obtain ⟨h1, h2⟩ := (hs3 i).1 hm
        exact (memX_bits s n i).2 ⟨h1, h i h1 h2⟩
    · refine (holds_bb P Q gx ((n + 63) / 64) gy ((n + 63) / 64) n (bitsW s n) (bitsW t n) w hP hQ (bitsW_lt s n) (bitsW_lt t n) (Nat.le_refl _) (by omega)).mono ?_
      rintro e w' ⟨h, hb⟩
      refine ⟨h.iff ?_, hb⟩
      constructor
      · intro h i hi ht
        exact ((memX_bits s n i).1 (h i ⟨by omega, (memX_bits t n i).2 ⟨hi, ht⟩⟩)).2
      · rintro h i ⟨_, hm⟩
        obtain ⟨h1, h2⟩ := (memX_bits t n i).1 hm
        exact (memX_bits s n i).2 ⟨h1, h i h1 h2⟩

end Go.Proofs.Ybulkamao
