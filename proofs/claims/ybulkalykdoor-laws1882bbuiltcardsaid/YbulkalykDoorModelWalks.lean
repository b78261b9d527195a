/-
  The walk of the model (6).
-/
import Derived.Test.YbulkalykDoorWalks
namespace Go.Proofs.YbulkalykDoor
open Go.RowKit Go.Proofs.YbulkalykDoor.Plain

/-- Nothing stands at i. -/
theorem mod_past (a0 : Option Addr) (n cap i : Nat) (w : World) (hi : n ≤ i) (_hi' : i ≤ 4096) :
    Calls Ybad.prog 6 #[.slice a0 n cap, .int .i64 i] w fun e w' => e = .returned (.tuple #[.int .i64 0, .bool false]) ∧ w' = w := by
  go_enter Ybad.func6, Ybad.ntmps6
  go_wp2
  go_loop [8] (fun j => j = .int .i64 i) (fun _ => 0)
  case atStart => rfl
  case round =>
    subst hrel
    go_wp2
    go_ret2
    exact ⟨rfl, rfl⟩

set_option maxHeartbeats 400000 in
/-- The digits begin at i itself. -/
theorem mod_plain (b off n cap i E : Nat) (z : Nat → Int) (w : World) (hn : n ≤ 4096) (hi : i < n)
    (hz : ∀ k, 0 ≤ z k ∧ z k ≤ 255) (hc : ∀ k, k < n → w.cell? ⟨b, off + k, none⟩ = some (.int .u8 (z k)))
    (hm : (z i == 45) = false) (hE : IsEnd z n i E) :
    Calls Ybad.prog 6 #[.slice (some ⟨b, off, none⟩) n cap, .int .i64 i] w fun e w' => e = .returned (.tuple #[.int .i64 (outE z i E), .bool (outB z n i E)]) ∧ w' = w := by
  obtain ⟨e1, e2, e3⟩ := hE
  have hz0 := hz i
  have hci := hc i hi
  go_enter Ybad.func6, Ybad.ntmps6
  go_wp2
  go_loop [8, 9] (fun j _ => ∃ k : Nat, i ≤ k ∧ k ≤ E ∧ j = .int .i64 k) (fun j _ => E - (intOf j).toNat)
  case atStart => exact ⟨i, Nat.le_refl _, e1, rfl⟩
  case round =>
      obtain ⟨k, hk1, hk2, rfl⟩ := hrel
      have hck := hc k
      have hzk := hz k
      by_cases hlt : k < E
      · have hd := e2 k hk1 hlt
        go_wp2
        go_round
        case rel => exact ⟨k + 1, by omega, by omega, by go_num⟩
        case measure => simp [intOf]; omega
      · have hke : k = E := by omega
        subst hke
        by_cases hsame : k ≤ i
        · go_wp2
          all_goals
            go_ret2
            obtain rfl : k = i := by omega
            exact ⟨ret_pair (bad_same z n _).1.symm (bad_same z n _).2.symm, rfl⟩
        · have hd := e2 i (by omega) (by omega)
          have hkn : k ≤ n := by have := e2 (k - 1) (by omega) (by omega); omega
          by_cases h48 : (z i == 48) = true ∧ i + 1 < k
          · obtain ⟨h48a, h48b⟩ := h48
            go_wp2
            all_goals
              go_ret2
              exact ⟨ret_pair (bad_zero z n i k h48a h48b).1.symm (bad_zero z n i k h48a h48b).2.symm, rfl⟩
          · have hgood : (z i == 48) = false ∨ ((z i == 48) = true ∧ ¬ ((i : Int) + 1 < (k : Int))) := by
              by_cases h : (z i == 48) = true
              · exact .inr ⟨h, by have : ¬ i + 1 < k := fun h' => h48 ⟨h, h'⟩; omega⟩
              · exact .inl (by simpa using h)
            clear h48
            have hik : i < k := by omega
            have hG : Hid ((z i == 48) = false ∨ k = i + 1) := by rcases hgood with h | ⟨_, h⟩; exact .inl h; exact .inr (by omega)
            by_cases hkn' : k = n
            · subst hkn'
              rcases hgood with hg | ⟨hg, hg2⟩
              all_goals
                go_wp2
                go_ret2
                exact ⟨ret_pair (good_end z k i k hik hG.out).1.symm (by rw [(good_end z k i k hik hG.out).2]; simp), rfl⟩
            · have hlt' : k < n := by omega
              have hck' := hck hlt'
              have hnn : (k : Int) < n := by omega
              rcases hgood with hg | ⟨hg, hg2⟩
              all_goals
                rcases e3 hlt' with h | h
                all_goals
                  go_wp2
                  all_goals
                    go_ret2
                    exact ⟨ret_pair (good_end z n i k hik hG.out).1.symm (by rw [(good_end z n i k hik hG.out).2]; simp [endsB, *]), rfl⟩

set_option maxHeartbeats 400000 in
/-- A minus sign stands at i. -/
theorem mod_minus (b off n cap i E : Nat) (z : Nat → Int) (w : World) (hn : n ≤ 4096) (hi : i < n)
    (hz : ∀ k, 0 ≤ z k ∧ z k ≤ 255) (hc : ∀ k, k < n → w.cell? ⟨b, off + k, none⟩ = some (.int .u8 (z k)))
    (hm : (z i == 45) = true) (hE : IsEnd z n (i + 1) E) :
    Calls Ybad.prog 6 #[.slice (some ⟨b, off, none⟩) n cap, .int .i64 i] w fun e w' => e = .returned (.tuple #[.int .i64 (outE z (i + 1) E), .bool (outB z n (i + 1) E)]) ∧ w' = w := by
  obtain ⟨e1, e2, e3⟩ := hE
  have hz0 := hz i
  have hci := hc i hi
  go_enter Ybad.func6, Ybad.ntmps6
  go_wp2
  go_loop [8, 9] (fun j _ => ∃ k : Nat, (i + 1) ≤ k ∧ k ≤ E ∧ j = .int .i64 k) (fun j _ => E - (intOf j).toNat)
  case atStart => exact ⟨(i + 1), Nat.le_refl _, e1, rfl⟩
  case round =>
      obtain ⟨k, hk1, hk2, rfl⟩ := hrel
      have hck := hc k
      have hzk := hz k
      by_cases hlt : k < E
      · have hd := e2 k hk1 hlt
        go_wp2
        go_round
        case rel => exact ⟨k + 1, by omega, by omega, by go_num⟩
        case measure => simp [intOf]; omega
      · have hke : k = E := by omega
        subst hke
        by_cases hsame : k ≤ (i + 1)
        · go_wp2
          all_goals
            go_ret2
            obtain rfl : k = (i + 1) := by omega
            exact ⟨ret_pair (bad_same z n _).1.symm (bad_same z n _).2.symm, rfl⟩
        · have hd := e2 (i + 1) (by omega) (by omega)
          have hcs := hc (i + 1) hd.1
          have hkn : k ≤ n := by have := e2 (k - 1) (by omega) (by omega); omega
          by_cases h48 : (z (i + 1) == 48) = true ∧ (i + 1) + 1 < k
          · obtain ⟨h48a, h48b⟩ := h48
            go_wp2
            all_goals
              go_ret2
              exact ⟨ret_pair (bad_zero z n (i + 1) k h48a h48b).1.symm (bad_zero z n (i + 1) k h48a h48b).2.symm, rfl⟩
          · have hgood : (z (i + 1) == 48) = false ∨ ((z (i + 1) == 48) = true ∧ ¬ ((i : Int) + 1 + 1 < (k : Int))) := by
              by_cases h : (z (i + 1) == 48) = true
              · exact .inr ⟨h, by have : ¬ (i + 1) + 1 < k := fun h' => h48 ⟨h, h'⟩; omega⟩
              · exact .inl (by simpa using h)
            clear h48
            have hik : (i + 1) < k := by omega
            have hG : Hid ((z (i + 1) == 48) = false ∨ k = (i + 1) + 1) := by rcases hgood with h | ⟨_, h⟩; exact .inl h; exact .inr (by omega)
            by_cases hkn' : k = n
            · subst hkn'
              rcases hgood with hg | ⟨hg, hg2⟩
              all_goals
                go_wp2
                go_ret2
                exact ⟨ret_pair (good_end z k (i + 1) k hik hG.out).1.symm (by rw [(good_end z k (i + 1) k hik hG.out).2]; simp), rfl⟩
            · have hlt' : k < n := by omega
              have hck' := hck hlt'
              have hnn : (k : Int) < n := by omega
              rcases hgood with hg | ⟨hg, hg2⟩
              all_goals
                rcases e3 hlt' with h | h
                all_goals
                  go_wp2
                  all_goals
                    go_ret2
                    exact ⟨ret_pair (good_end z n (i + 1) k hik hG.out).1.symm (by rw [(good_end z n (i + 1) k hik hG.out).2]; simp [endsB, *]), rfl⟩

end Go.Proofs.YbulkalykDoor
