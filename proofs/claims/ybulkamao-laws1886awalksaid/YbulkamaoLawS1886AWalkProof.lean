/-
  'Rows.LawS1886AWalkSaid': the walk of the law at every pair of slices, and the guide's frame.
-/
import Derived.Test.YbulkamaoRows
import Derived.WalkKit
import Derived.ProofKit
import Derived.OpenShut
import Derived.ChangeOld
import Derived.Below
import Derived.Test.YbulkamaoAWalk
import Derived.Test.YbulkamaoAWalk2
namespace Go.Proofs.Ybulkamao.lawS1886AWalk
open Go.ChangeShapes Go.WideShapes Go.ChangeAt Go.RowKit

theorem own : ownKnob Yba.prog.godebug = none := by kernel_rfl
theorem laidOut : laidOutB Yba.prog = true := by kernel_rfl

theorem walk_long (a0 a1 : Option Addr) (n cap nr cr : Nat) (w : World) (h : 1024 < n) (hm : n ≤ maxLen) :
    Calls Yba.prog 4 #[.slice a0 n cap, .slice a1 nr cr] w fun e w' => e = .returned (.bool true) ∧ Below w.heap.size w w' := by
  unfold maxLen at hm
  go_enter Yba.func4, Yba.ntmps4
  go_wp2
  go_ret
  exact ⟨rfl, Below.refl _ _⟩

set_option maxHeartbeats 400000 in
theorem walk_zero (a0 a1 : Option Addr) (cap nr cr : Nat) (w : World) :
    Calls Yba.prog 4 #[.slice a0 0 cap, .slice a1 nr cr] w fun e w' => e = .returned (.bool true) ∧ Below w.heap.size w w' := by
  go_enter Yba.func4, Yba.ntmps4
  go_wp2
  go_loop [7] (fun i => i = .int .i64 0) (fun _ => 0)
  case atStart => rfl
  case round =>
    subst hrel
    go_wp2
    go_loop [10, 11, 14] (fun rv av i => rv = .bool false ∧ av = .bool false ∧ i = .int .i64 0) (fun _ _ _ => 0)
    case atStart => exact ⟨rfl, rfl, rfl⟩
    case round =>
      obtain ⟨rfl, rfl, rfl⟩ := hrel
      go_wp2
      go_ret
      exact ⟨rfl, (Below.refl _ _).alloc (Nat.le_refl _) _⟩

theorem walk (a0 a1 : Option Addr) (n cap nr cr : Nat) (wk rb : Nat → Bool) (w : World) (h0 : RowB w a0 n wk) (h1 : RowB w a1 nr rb) (hm : n ≤ maxLen) (hmr : nr ≤ maxLen) :
    Calls Yba.prog 4 #[.slice a0 n cap, .slice a1 nr cr] w fun e w' => e = .returned (.bool true) ∧ Below w.heap.size w w' := by
  by_cases hz : n = 0
  · subst hz; exact walk_zero a0 a1 cap nr cr w
  by_cases hlong : 1024 < n
  · exact walk_long a0 a1 n cap nr cr w hlong hm
  rcases h0 with h | ⟨b, off, rfl, hc⟩
  · exact absurd h hz
  by_cases hzr : nr = 0
  · subst hzr; exact awalk_nil b off n cap wk a1 cr w (by omega) (by omega) hc
  rcases h1 with h | ⟨b2, off2, rfl, hcr⟩
  · exact absurd h hzr
  exact awalk_pos b off n cap wk b2 off2 nr cr rb w (by omega) (by omega) hc hcr hmr

set_option maxRecDepth 100000 in
theorem lifted (os : Os) (started : os.Started) (H : Type) (enc : TypeId × Value → H) :
    ReturnsInHanded {} Yba.checked os 4 .any (Rows.lawS1886AWalkSpec.pre6 enc Yba.prog Yba.f4 Rows.lawS1886AWalkRow.domain false) (Rows.lawS1886AWalkSpec.post enc Yba.prog Yba.f4 false true false false) := by
  refine returnsInHanded_of_change (C := Yba.checked) own started (by kernel_rfl) Yba.func4
    (ChangeSpec.witness6 (enc := enc) (C := Yba.checked) false ⟨#[], #[.slice none 0 0, .slice none 0 0], []⟩ 8 (by kernel_rfl) (by kernel_rfl) (by kernel_rfl) (by kernel_rfl)) ?_
  intro W base args ds gs before hval0 hW hcnd _
  have hval : ∀ (j : Nat) t v, Yba.f4.params[j]? = some t → args[j]? = some v → Value.okWide Yba.prog W .any base t v := hval0
  have hW' := hW
  obtain ⟨p, q, hA0, hV, rfl, hfz, hnd⟩ := hW
  have hA : DataW.TrodAll enc Yba.prog W 0 (fun _ => true) true Yba.f4.params.toList args.toList ds p := hA0
  rw [Yba.params4] at hA hval
  obtain ⟨v0, v1, d0, d1, p0, p1, rfl, rfl, rfl, h0, h1⟩ := trodAll_two hA
  obtain ⟨rfl, rfl⟩ := trodVars_none hV
  obtain ⟨a0, len0, cap0, rfl⟩ := okWide_slice Yba.underlying26 (hval 0 26 v0 rfl rfl)
  obtain ⟨a1, len1, cap1, rfl⟩ := okWide_slice Yba.underlying26 (hval 1 26 v1 rfl rfl)
  have lt0 : ∀ x ∈ p0, x.block < W.heap.size := by obtain ⟨m, hm⟩ := h0; exact DataW.trod_lt m _ _ _ hm
  have lt1 : ∀ x ∈ p1, x.block < W.heap.size := by obtain ⟨m, hm⟩ := h1; exact DataW.trod_lt m _ _ _ hm
  obtain ⟨wk, r0, m0⟩ : ∃ z, RowB W a0 len0 z ∧ len0 ≤ maxLen := by obtain ⟨f, hf⟩ := h0; exact rowB_of (by simpa [Value.cells] using hf)
  obtain ⟨rb, r1, m1⟩ : ∃ z, RowB W a1 len1 z ∧ len1 ≤ maxLen := by obtain ⟨f, hf⟩ := h1; exact rowB_of (by simpa [Value.cells] using hf)
  clear hA0 hval0
  refine (walk a0 a1 len0 cap0 len1 cap1 wk rb W r0 r1 m0 m1).mono fun e W' ⟨he, bel⟩ => ?_
  subst he
  exact ⟨_, rfl, _, _, _, [], _, [], hW', trodAll_mk1 (shut_bool Yba.underlying4 _), trodAll_mk2 (Below.trod laidOut (by kernel_rfl) (of_decide_eq_true (by kernel_rfl)) h0 bel lt0) (Below.trod laidOut (by kernel_rfl) (of_decide_eq_true (by kernel_rfl)) h1 bel lt1), rfl, bel.frame _, fun h => by cases h⟩

theorem over : Rows.lawS1886AWalkRow.holds Yba.pinned (OpenSpec.ofChange Rows.lawS1886AWalkSpec) :=
  OpenClaim.holds_of_wide 4 Yba.f4 rfl rfl rfl rfl rfl rfl rfl ⟨rfl, rfl, rfl, rfl, rfl⟩ rfl rfl rfl rfl rfl (by kernel_rfl) Yba.func4 (by kernel_rfl)
    (of_decide_eq_true (by kernel_rfl)) (by unfold Func.isWrapper; first | (rw [if_pos (by decide +kernel)]; kernel_rfl) | (rw [if_neg (by decide +kernel)]; exact ⟨rfl, rfl⟩))
    (fun os started H enc _ => lifted os started H enc)

/-- THE STATEMENT. -/
theorem proved : Rows.LawS1886AWalkSaid := over
end Go.Proofs.Ybulkamao.lawS1886AWalk
