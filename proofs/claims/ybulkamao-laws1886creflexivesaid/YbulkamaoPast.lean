/-
  The walk of 'adjacentState.past' (9).
-/
import Derived.Test.YbulkamaoChecked
import Derived.WalkKit
import Derived.WalkLawsBesides
import Derived.WalkSpells
namespace Go.Proofs.Ybulkamao
open Go.RowKit

/-- How many arcs have been walked, behind one more. -/
def pw (n : Int) : Int := if n = 255 then 0 else if n = 0 then 1 else 2
abbrev stV (n : Int) (rw adj first last : Bool) : Value := .agg #[.int .u8 n, .bool rw, .bool adj, .bool first, .bool last]

set_option maxHeartbeats 1000000 in
theorem past_any (n : Int) (rw adj first last weak arc : Bool) (w : World) (h0 : 0 ≤ n) (h1 : n ≤ 255) :
    Calls Yba.prog 9 #[stV n rw adj first last, .bool weak, .bool arc] w fun e w' =>
      e = .returned (stV (pw n) (rw || arc) (adj || (last && weak)) (if n = 0 then weak else first) weak) ∧ Below w.heap.size w w' := by
  unfold pw
  by_cases hz : n = 0
  · subst hz
    cases rw <;> cases adj <;> cases last
    all_goals
      go_enter Yba.func9, Yba.ntmps9
      go_wp2
      refine bodyPost_ret (by simp [results, Yba.results9, go_sem]; rfl) rfl ⟨?_, ((Below.refl _ _).alloc (Nat.le_refl _) _).alloc (by simp) _⟩
      rfl
  · by_cases hm : n = 255
    · subst hm
      cases rw <;> cases adj <;> cases last
      all_goals
        go_enter Yba.func9, Yba.ntmps9
        go_wp2
        refine bodyPost_ret (by simp [results, Yba.results9, go_sem]; rfl) rfl ⟨?_, ((Below.refl _ _).alloc (Nat.le_refl _) _).alloc (by simp) _⟩
        rfl
    · have hn0 : 1 ≤ n := by omega
      have hn1 : n ≤ 254 := by omega
      rw [if_neg hm, if_neg hz, if_neg hz]
      by_cases hone : n = 1
      all_goals try subst hone
      all_goals try have hn2 : 2 ≤ n := by omega
      all_goals cases rw <;> cases adj <;> cases last
      all_goals
        go_enter Yba.func9, Yba.ntmps9
        go_wp2
        refine bodyPost_ret (by simp [results, Yba.results9, go_sem]; rfl) rfl ⟨?_, ((Below.refl _ _).alloc (Nat.le_refl _) _).alloc (by simp) _⟩
        rfl
end Go.Proofs.Ybulkamao
