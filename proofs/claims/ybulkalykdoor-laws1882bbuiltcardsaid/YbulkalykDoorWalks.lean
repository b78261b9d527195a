/-
  The walks of 'plainIntegerEnd' (5) and of the model (6).
-/
import Derived.Test.YbulkalykDoorChecked
import Derived.Test.YbulkalykDoorPlain
import Derived.WalkKit
import Derived.WalkLawsBesides
import Derived.WalkSpells
import Derived.Deep.QuietTactic
import Derived.BigQuiet
namespace Go.Proofs.YbulkalykDoor
open Go.RowKit Go.Proofs.YbulkalykDoor.Plain

theorem ret_pair {a b : Int} {x y : Bool} (h1 : a = b) (h2 : x = y) : Ending.returned (.tuple #[.int .i64 a, .bool x]) = .returned (.tuple #[.int .i64 b, .bool y]) := by rw [h1, h2]

theorem bad_same (z : Nat → Int) (n i : Nat) : outE z i i = 0 ∧ outB z n i i = false := by simp [outE, outB, badB]
theorem bad_zero (z : Nat → Int) (n i e : Nat) (h : (z i == 48) = true) (h' : i + 1 < e) : outE z i e = 0 ∧ outB z n i e = false := by simp [outE, outB, badB, h, h']
theorem good_end (z : Nat → Int) (n i e : Nat) (h0 : i < e) (h : (z i == 48) = false ∨ e = i + 1) : outE z i e = (e : Int) ∧ outB z n i e = (e == n || endsB (z e)) := by
  have hb : badB z i e = false := by
    unfold badB
    have h1 : (e == i) = false := by simp; omega
    rcases h with h | h
    · simp [h1, h]
    · subst h; simp
  simp [outE, outB, hb]

/-- Nothing stands at i. -/
theorem pie_past (a0 : Option Addr) (n cap i : Nat) (w : World) (hi : n ≤ i) (_hi' : i ≤ 4096) :
    Calls Ybad.prog 5 #[.slice a0 n cap, .int .i64 i] w fun e w' => e = .returned (.tuple #[.int .i64 0, .bool false]) ∧ ∃ q, w' = w.drewN q := by
  go_enter Ybad.func5, Ybad.ntmps5
  go_wp2
  go_loop [6] (fun j => j = .int .i64 i) (fun _ => 0)
  case atStart => rfl
  case round =>
    subst hrel
    go_wp2
    go_ret2
    exact ⟨rfl, 0, rfl⟩

set_option maxHeartbeats 400000 in
/-- The digits begin at i itself. -/
theorem pie_plain (b off n cap i E : Nat) (z : Nat → Int) (w : World) (hn : n ≤ 4096) (hi : i < n)
    (hz : ∀ k, 0 ≤ z k ∧ z k ≤ 255) (hc : ∀ k, k < n → w.cell? ⟨b, off + k, none⟩ = some (.int .u8 (z k)))
    (ht : ∀ k, w.cell? ⟨0, (z k).toNat, none⟩ = some (.bool (endsB (z k))))
    (hm : (z i == 45) = false) (hE : IsEnd z n i E) :
    Calls Ybad.prog 5 #[.slice (some ⟨b, off, none⟩) n cap, .int .i64 i] w fun e w' => e = .returned (.tuple #[.int .i64 (outE z i E), .bool (outB z n i E)]) ∧ ∃ q, w' = w.drewN q := by
  obtain ⟨e1, e2, e3⟩ := hE
  have hz0 := hz i
  have hci := hc i hi
  go_enter Ybad.func5, Ybad.ntmps5
  go_wp2
  · go_loop [6] (fun j => ∃ k : Nat, i ≤ k ∧ k ≤ E ∧ j = .int .i64 k) (fun j => E - (intOf j).toNat)
    case atStart => exact ⟨i, Nat.le_refl _, e1, rfl⟩
    case round =>
      obtain ⟨k, hk1, hk2, rfl⟩ := hrel
      have hck := hc k
      have hzk := hz k
      have htk := ht k
      by_cases hlt : k < E
      · have hd := e2 k hk1 hlt
        go_wp2
        go_round
        case rel => exact ⟨k + 1, by omega, by omega, by go_num⟩
        case measure => simp [intOf]; omega
      · have hke : k = E := by omega
        subst hke
        by_cases hsame : k = i
        · subst hsame
          go_wp2
          all_goals
            go_ret2
            exact ⟨ret_pair (bad_same z n k).1.symm (bad_same z n k).2.symm, 0, rfl⟩
        · have hd := e2 i (by omega) (by omega)
          have hkn : k ≤ n := by have := e2 (k - 1) (by omega) (by omega); omega
          by_cases h48 : (z i == 48) = true ∧ i + 1 < k
          · obtain ⟨h48a, h48b⟩ := h48
            go_wp2
            all_goals
              go_ret2
              exact ⟨ret_pair (bad_zero z n i k h48a h48b).1.symm (bad_zero z n i k h48a h48b).2.symm, 0, rfl⟩
          · have hgood : (z i == 48) = false ∨ ((z i == 48) = true ∧ ¬ ((i : Int) + 1 < (k : Int))) := by
              by_cases h : (z i == 48) = true
              · exact .inr ⟨h, by have : ¬ i + 1 < k := fun h' => h48 ⟨h, h'⟩; omega⟩
              · exact .inl (by simpa using h)
            clear h48
            have hik : i < k := by omega
            rcases hgood with hg | ⟨hg, hg2⟩
            · by_cases hkn' : k = n
              · subst hkn'
                go_wp2
                go_quiet (fail)
                go_wp2
                go_ret2
                exact ⟨ret_pair (good_end z k i k hik (.inl hg)).1.symm (by rw [(good_end z k i k hik (.inl hg)).2]; simp), _, rfl⟩
              · have hlt' : k < n := by omega
                have hck' := hck hlt'
                have hd0 : ((k : Int) == (n : Int)) = false := by simp; omega
                have hltI : (k : Int) < (n : Int) := by omega
                have hz1 : 0 ≤ z k := hzk.1
                have hz2 : z k < 256 := by omega
                rcases e3 hlt' with h | h
                all_goals
                  go_wp2
                  go_quiet (fail)
                  go_wp2
                  go_ret2
                  exact ⟨ret_pair (good_end z n i k hik (.inl hg)).1.symm (by rw [(good_end z n i k hik (.inl hg)).2]; simp; omega), _, rfl⟩
            · by_cases hkn' : k = n
              · subst hkn'
                go_wp2
                all_goals
                  go_quiet (fail)
                  go_wp2
                  go_ret2
                  exact ⟨ret_pair (good_end z k i k hik (.inr (by omega))).1.symm (by rw [(good_end z k i k hik (.inr (by omega))).2]; simp), _, rfl⟩
              · have hlt' : k < n := by omega
                have hck' := hck hlt'
                have hd0 : ((k : Int) == (n : Int)) = false := by simp; omega
                have hltI : (k : Int) < (n : Int) := by omega
                have hz1 : 0 ≤ z k := hzk.1
                have hz2 : z k < 256 := by omega
                rcases e3 hlt' with h | h
                all_goals
                  go_wp2
                  all_goals
                    go_quiet (fail)
                    go_wp2
                    go_ret2
                    exact ⟨ret_pair (good_end z n i k hik (.inr (by omega))).1.symm (by rw [(good_end z n i k hik (.inr (by omega))).2]; simp; omega), _, rfl⟩
set_option maxHeartbeats 400000 in
/-- A minus sign stands at i. -/
theorem pie_minus (b off n cap i E : Nat) (z : Nat → Int) (w : World) (hn : n ≤ 4096) (hi : i < n)
    (hz : ∀ k, 0 ≤ z k ∧ z k ≤ 255) (hc : ∀ k, k < n → w.cell? ⟨b, off + k, none⟩ = some (.int .u8 (z k)))
    (ht : ∀ k, w.cell? ⟨0, (z k).toNat, none⟩ = some (.bool (endsB (z k))))
    (hm : (z i == 45) = true) (hE : IsEnd z n (i + 1) E) :
    Calls Ybad.prog 5 #[.slice (some ⟨b, off, none⟩) n cap, .int .i64 i] w fun e w' => e = .returned (.tuple #[.int .i64 (outE z (i + 1) E), .bool (outB z n (i + 1) E)]) ∧ ∃ q, w' = w.drewN q := by
  obtain ⟨e1, e2, e3⟩ := hE
  have hz0 := hz i
  have hci := hc i hi
  go_enter Ybad.func5, Ybad.ntmps5
  go_wp2
  · go_loop [6] (fun j => ∃ k : Nat, i + 1 ≤ k ∧ k ≤ E ∧ j = .int .i64 k) (fun j => E - (intOf j).toNat)
    case atStart => exact ⟨i + 1, Nat.le_refl _, e1, rfl⟩
    case round =>
      obtain ⟨k, hk1, hk2, rfl⟩ := hrel
      have hck := hc k
      have hzk := hz k
      have htk := ht k
      by_cases hlt : k < E
      · have hd := e2 k hk1 hlt
        go_wp2
        go_round
        case rel => exact ⟨k + 1, by omega, by omega, by go_num⟩
        case measure => simp [intOf]; omega
      · have hke : k = E := by omega
        subst hke
        by_cases hsame : k ≤ i + 1
        · go_wp2
          all_goals
            go_ret2
            obtain rfl : k = i + 1 := by omega
            exact ⟨ret_pair (bad_same z n (i + 1)).1.symm (bad_same z n (i + 1)).2.symm, 0, rfl⟩
        · have hd := e2 (i + 1) (by omega) (by omega)
          have hzi1 := hz (i + 1)
          have hci1 := hc (i + 1) hd.1
          have hkn : k ≤ n := by have := e2 (k - 1) (by omega) (by omega); omega
          by_cases h48 : (z (i + 1) == 48) = true ∧ i + 1 + 1 < k
          · obtain ⟨h48a, h48b⟩ := h48
            go_wp2
            all_goals
              go_ret2
              exact ⟨ret_pair (bad_zero z n (i + 1) k h48a h48b).1.symm (bad_zero z n (i + 1) k h48a h48b).2.symm, 0, rfl⟩
          · have hgood : (z (i + 1) == 48) = false ∨ ((z (i + 1) == 48) = true ∧ ¬ ((i : Int) + 1 + 1 < (k : Int))) := by
              by_cases h : (z (i + 1) == 48) = true
              · exact .inr ⟨h, by have : ¬ i + 1 + 1 < k := fun h' => h48 ⟨h, h'⟩; omega⟩
              · exact .inl (by simpa using h)
            clear h48
            have hik : i + 1 < k := by omega
            rcases hgood with hg | ⟨hg, hg2⟩
            · by_cases hkn' : k = n
              · subst hkn'
                go_wp2
                go_quiet (fail)
                go_wp2
                go_ret2
                exact ⟨ret_pair (good_end z k (i + 1) k hik (.inl hg)).1.symm (by rw [(good_end z k (i + 1) k hik (.inl hg)).2]; simp), _, rfl⟩
              · have hlt' : k < n := by omega
                have hck' := hck hlt'
                have hd0 : ((k : Int) == (n : Int)) = false := by simp; omega
                have hltI : (k : Int) < (n : Int) := by omega
                have hz1 : 0 ≤ z k := hzk.1
                have hz2 : z k < 256 := by omega
                rcases e3 hlt' with h | h
                all_goals
                  go_wp2
                  go_quiet (fail)
                  go_wp2
                  go_ret2
                  exact ⟨ret_pair (good_end z n (i + 1) k hik (.inl hg)).1.symm (by rw [(good_end z n (i + 1) k hik (.inl hg)).2]; simp; omega), _, rfl⟩
            · by_cases hkn' : k = n
              · subst hkn'
                go_wp2
                all_goals
                  go_quiet (fail)
                  go_wp2
                  go_ret2
                  exact ⟨ret_pair (good_end z k (i + 1) k hik (.inr (by omega))).1.symm (by rw [(good_end z k (i + 1) k hik (.inr (by omega))).2]; simp), _, rfl⟩
              · have hlt' : k < n := by omega
                have hck' := hck hlt'
                have hd0 : ((k : Int) == (n : Int)) = false := by simp; omega
                have hltI : (k : Int) < (n : Int) := by omega
                have hz1 : 0 ≤ z k := hzk.1
                have hz2 : z k < 256 := by omega
                rcases e3 hlt' with h | h
                all_goals
                  go_wp2
                  all_goals
                    go_quiet (fail)
                    go_wp2
                    go_ret2
                    exact ⟨ret_pair (good_end z n (i + 1) k hik (.inr (by omega))).1.symm (by rw [(good_end z n (i + 1) k hik (.inr (by omega))).2]; simp; omega), _, rfl⟩
end Go.Proofs.YbulkalykDoor
