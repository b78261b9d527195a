/-
  The call of 'plainIntegerEnd' on the built text.
-/
import Derived.Test.YbulkalykDoorJoin
import Derived.Test.YbulkalykDoorPlain2
namespace Go.Proofs.YbulkalykDoor
open Go.RowKit Go.Proofs.YbulkalykDoor.Plain

theorem Ybad.info5 : (Ybad.prog.info? 5).map (fun i => (i.zero, i.size, i.bytes)) = some (some (.int .u8 0), 1, 1) := by kernel_rfl

theorem tail_facts : ∀ s : Fin 18, (0 ≤ ((({ data := #[32, 9, 10, 13, 44, 93, 125, 46, 101, 69, 45, 43, 34, 120, 58, 91, 123, 97] } : ByteArray)[s.1]'s.2).toNat : Int) ∧ ((({ data := #[32, 9, 10, 13, 44, 93, 125, 46, 101, 69, 45, 43, 34, 120, 58, 91, 123, 97] } : ByteArray)[s.1]'s.2).toNat : Int) ≤ 255) ∧
    (((({ data := #[32, 9, 10, 13, 44, 93, 125, 46, 101, 69, 45, 43, 34, 120, 58, 91, 123, 97] } : ByteArray)[s.1]'s.2).toNat : Int) < 48 ∨ 57 < ((({ data := #[32, 9, 10, 13, 44, 93, 125, 46, 101, 69, 45, 43, 34, 120, 58, 91, 123, 97] } : ByteArray)[s.1]'s.2).toNat : Int)) ∧ endsB ((({ data := #[32, 9, 10, 13, 44, 93, 125, 46, 101, 69, 45, 43, 34, 120, 58, 91, 123, 97] } : ByteArray)[s.1]'s.2).toNat : Int) = decide (s.1 < 7) := by decide

/-- The byte at the tail: one of eighteen; the first seven may follow a scalar. -/
theorem tail_own {sel : Nat} {h : sel < ({ data := #[32, 9, 10, 13, 44, 93, 125, 46, 101, 69, 45, 43, 34, 120, 58, 91, 123, 97] } : ByteArray).size} {L : List Value} (P : List Value → Prop)
    (hp : P (L ++ [Value.int .u8 ((({ data := #[32, 9, 10, 13, 44, 93, 125, 46, 101, 69, 45, 43, 34, 120, 58, 91, 123, 97] } : ByteArray)[sel]'h).toNat : Int)])) :
    ∃ c : Int, (0 ≤ c ∧ c ≤ 255) ∧ (c < 48 ∨ 57 < c) ∧ endsB c = decide (sel < 7) ∧ P (L ++ [.int .u8 c]) := by
  have f := tail_facts ⟨sel, h⟩
  exact ⟨_, f.1, f.2.1, f.2.2, hp⟩

theorem row_of_own {w : World} {base g n cap : Nat} {D : List Int} (h : w.ownsRow base 5 1 (.slice (some ⟨g, 0, none⟩) n cap) n (D.map (Value.int .u8))) : D.length = n ∧ Row8 w (some ⟨g, 0, none⟩) n (zz D) := by
  have hl : D.length = n := by simpa using h.1
  refine ⟨hl, .inr ⟨g, 0, rfl, fun k hk => ?_⟩⟩
  rw [Nat.zero_add, h.cellAt k (by omega)]
  simp [zz, List.getD, show k < D.length by omega]

/-- No digits, or a leading nought before other digits. -/
theorem call_bad (g n cap base : Nat) (ps : List Int) (neg : Bool) (ds : Nat → Int) (nd : Nat) (tl : List Int) (w : World)
    (hown : w.ownsRow base 5 1 (.slice (some ⟨g, 0, none⟩) n cap) n ((built ps neg ds nd tl).map (Value.int .u8)))
    (hpb : ∀ x ∈ ps, 0 ≤ x ∧ x ≤ 255) (htb : ∀ x ∈ tl, 0 ≤ x ∧ x ≤ 255) (htl : tl = [] ∨ ∃ c, tl = [c] ∧ (c < 48 ∨ 57 < c)) (hn : n ≤ 4095)
    (ht : ∀ c : Nat, c < 256 → w.cell? ⟨0, c, none⟩ = some (.bool (endsB (c : Int))))
    (hbad : nd = 0 ∨ (0 < nd ∧ ds 0 % 10 = 0 ∧ 1 < nd)) :
    Calls Ybad.prog 5 #[.slice (some ⟨g, 0, none⟩) n cap, .int .i64 (ps.length : Int)] w fun e w' => e = .returned (.tuple #[.int .i64 0, .bool false]) ∧ ∃ q, w' = w.drewN q := by
  obtain ⟨hl, hr⟩ := row_of_own hown
  have hz := zz_bd (built_bd ps neg ds nd tl hpb htb)
  have hbl := built_len ps neg ds nd tl
  have htz : ∀ k, w.cell? ⟨0, (zz (built ps neg ds nd tl) k).toNat, none⟩ = some (.bool (endsB (zz (built ps neg ds nd tl) k))) := fun k => by
    have h2 := hz k
    have h3 := ht (zz (built ps neg ds nd tl) k).toNat (by omega)
    rw [Int.toNat_of_nonneg h2.1] at h3
    exact h3
  rcases hbad with rfl | ⟨h0, h10, h1⟩
  · have hE := end_none ps neg ds tl htl
    rw [hl] at hE
    have := pie_any (some ⟨g, 0, none⟩) n cap ps.length _ _ w hn (by omega) hz hr htz hE
    rw [(bad_same _ n _).1, (bad_same _ n _).2] at this
    exact this
  · have hE := end_digits ps neg ds nd tl htl h0
    have hs := sg_digits ps neg ds nd tl h0
    have hd := at_dig ps neg ds nd tl 0 h0
    rw [hl] at hE hs
    have := pie_any (some ⟨g, 0, none⟩) n cap ps.length _ _ w hn (by omega) hz hr htz hE
    rw [hs] at this
    have hz0 : (zz (built ps neg ds nd tl) (ps.length + neg.toNat) == 48) = true := by
      rw [Nat.add_zero] at hd
      rw [hd, h10]; rfl
    have hb := bad_zero (zz (built ps neg ds nd tl)) n (ps.length + neg.toNat) (ps.length + neg.toNat + nd) hz0 (by omega)
    rw [hb.1, hb.2] at this
    exact this

/-- Digits that stand for an integer. -/
theorem call_good (g n cap base : Nat) (ps : List Int) (neg : Bool) (ds : Nat → Int) (nd : Nat) (tl : List Int) (w : World)
    (hown : w.ownsRow base 5 1 (.slice (some ⟨g, 0, none⟩) n cap) n ((built ps neg ds nd tl).map (Value.int .u8)))
    (hpb : ∀ x ∈ ps, 0 ≤ x ∧ x ≤ 255) (htb : ∀ x ∈ tl, 0 ≤ x ∧ x ≤ 255) (hn : n ≤ 4095)
    (ht : ∀ c : Nat, c < 256 → w.cell? ⟨0, c, none⟩ = some (.bool (endsB (c : Int))))
    (h0 : 0 < nd) (hgood : ¬ (ds 0 % 10 = 0 ∧ 1 < nd)) (ob : Bool) (htl : (tl = [] ∧ ob = true) ∨ ∃ c, tl = [c] ∧ (c < 48 ∨ 57 < c) ∧ endsB c = ob) (R : Int) (hR : R = (ps.length : Int) + (neg.toNat : Int) + (nd : Int)) :
    Calls Ybad.prog 5 #[.slice (some ⟨g, 0, none⟩) n cap, .int .i64 (ps.length : Int)] w fun e w' => e = .returned (.tuple #[.int .i64 R, .bool ob]) ∧ ∃ q, w' = w.drewN q := by
  obtain ⟨hl, hr⟩ := row_of_own hown
  have hz := zz_bd (built_bd ps neg ds nd tl hpb htb)
  have hbl := built_len ps neg ds nd tl
  have htz : ∀ k, w.cell? ⟨0, (zz (built ps neg ds nd tl) k).toNat, none⟩ = some (.bool (endsB (zz (built ps neg ds nd tl) k))) := fun k => by
    have h2 := hz k
    have h3 := ht (zz (built ps neg ds nd tl) k).toNat (by omega)
    rw [Int.toNat_of_nonneg h2.1] at h3
    exact h3
  have hE := end_digits ps neg ds nd tl (by rcases htl with ⟨h, _⟩ | ⟨c, h, h', _⟩; exact .inl h; exact .inr ⟨c, h, h'⟩) h0
  have hs := sg_digits ps neg ds nd tl h0
  have hd := at_dig ps neg ds nd tl 0 h0
  rw [hl] at hE hs
  have := pie_any (some ⟨g, 0, none⟩) n cap ps.length _ _ w hn (by omega) hz hr htz hE
  rw [hs] at this
  rw [Nat.add_zero] at hd
  have hg := good_end (zz (built ps neg ds nd tl)) n (ps.length + neg.toNat) (ps.length + neg.toNat + nd) (by omega) (by
    by_cases h1 : nd = 1
    · exact .inr (by omega)
    · left
      rw [hd]
      have : ¬ ds 0 % 10 = 0 := fun h => hgood ⟨h, by omega⟩
      simp; omega)
  rw [hg.1, hg.2] at this
  have e1 : ((ps.length + neg.toNat + nd : Nat) : Int) = R := by rw [hR]; simp
  have e2 : (ps.length + neg.toNat + nd == n || endsB (zz (built ps neg ds nd tl) (ps.length + neg.toNat + nd))) = ob := by
    rcases htl with ⟨rfl, rfl⟩ | ⟨c, rfl, _, rfl⟩
    · simp at hbl; simp; left; omega
    · rw [at_tail]
      have : (ps.length + neg.toNat + nd == n) = false := by simp at hbl; simp; omega
      rw [this]; rfl
  rw [e1, e2] at this
  exact this
end Go.Proofs.YbulkalykDoor
