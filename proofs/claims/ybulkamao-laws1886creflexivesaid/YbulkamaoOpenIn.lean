/-
  The laws' input, a struct of six fields by value, opened.
-/
import Derived.Test.YbulkamaoSets
import Derived.Test.YbulkamaoBools
import Derived.ProofKit
import Derived.OpenShut
import Derived.Deep.Fields
namespace Go.Proofs.Ybulkamao
open Go.ChangeShapes Go.WideShapes Go.ChangeAt Go.RowKit Go.Deep

theorem array6 {α : Type} {cs : Array α} (h : cs.size = 6) : ∃ c0 c1 c2 c3 c4 c5, cs = #[c0, c1, c2, c3, c4, c5] := by
  obtain ⟨l⟩ := cs
  match l, h with
  | [c0, c1, c2, c3, c4, c5], _ => exact ⟨c0, c1, c2, c3, c4, c5, rfl⟩
theorem Yba.cells44 : Yba.prog.cellsOf 44 = 6 := by kernel_rfl
theorem Yba.cells37 : Yba.prog.cellsOf 37 = 1 := by kernel_rfl
theorem Yba.cells26 : Yba.prog.cellsOf 26 = 1 := by kernel_rfl
theorem Yba.cells4 : Yba.prog.cellsOf 4 = 1 := by kernel_rfl

theorem some_of_len {α : Type} {xs : List α} {n i : Nat} (h : xs.length = n) (hi : i < n) : ∃ y, xs[i]? = some y := ⟨xs[i]'(by omega), by simp [h, hi]⟩

theorem open_in {H : Type} {enc : TypeId × Value → H} {W : World} {r : Reach} {b0 : Nat} {sp : Nat → Bool} {held : Bool} {v : Value} {d : DataW H} {p : List MemPlace}
    (hv : Value.okWide Yba.prog W r b0 44 v) (h : DataW.Trod enc Yba.prog W 0 sp held 44 v d p) :
    ∃ (N : Int) (aS aT : Option Addr) (lS cS lT cT : Nat) (sub sb tb : Bool) (s t : Nat → Bool), v = inV N aS lS cS aT lT cT sub sb tb ∧ 0 ≤ N ∧ N ≤ 65535 ∧ RowBs W aS lS s ∧ RowBs W aT lT t ∧ lS ≤ maxLen ∧ lT ≤ maxLen := by
  obtain ⟨cs, rfl, hsz⟩ := okWide_struct Yba.underlying44 hv
  obtain ⟨c0, c1, c2, c3, c4, c5, rfl⟩ := array6 (hsz.trans Yba.cells44)
  obtain ⟨fuel, hf⟩ := h
  obtain ⟨xs, n, _, _, _, hlen, hx⟩ := DataW.trod_struct Yba.underlying44 hf
  clear hf hv hsz
  have hlen : xs.length = 6 := hlen
  obtain ⟨y0, e0⟩ := some_of_len hlen (show 0 < 6 by decide)
  obtain ⟨y1, e1⟩ := some_of_len hlen (show 1 < 6 by decide)
  obtain ⟨y2, e2⟩ := some_of_len hlen (show 2 < 6 by decide)
  obtain ⟨y3, e3⟩ := some_of_len hlen (show 3 < 6 by decide)
  obtain ⟨y4, e4⟩ := some_of_len hlen (show 4 < 6 by decide)
  obtain ⟨y5, e5⟩ := some_of_len hlen (show 5 < 6 by decide)
  have k0 : DataW.trod enc Yba.prog W 0 sp held n 37 [c0] = some y0 := by simpa [Value.cells, Yba.cells37, e0] using hx 0 _ rfl
  have k1 : DataW.trod enc Yba.prog W 0 sp held n 26 [c1] = some y1 := by simpa [Value.cells, Yba.cells26, e1] using hx 1 _ rfl
  have k2 : DataW.trod enc Yba.prog W 0 sp held n 26 [c2] = some y2 := by simpa [Value.cells, Yba.cells26, e2] using hx 2 _ rfl
  have k3 : DataW.trod enc Yba.prog W 0 sp held n 4 [c3] = some y3 := by simpa [Value.cells, Yba.cells4, e3] using hx 3 _ rfl
  have k4 : DataW.trod enc Yba.prog W 0 sp held n 4 [c4] = some y4 := by simpa [Value.cells, Yba.cells4, e4] using hx 4 _ rfl
  have k5 : DataW.trod enc Yba.prog W 0 sp held n 4 [c5] = some y5 := by simpa [Value.cells, Yba.cells4, e5] using hx 5 _ rfl
  clear hx
  obtain ⟨N, f0, _, wN⟩ := DataW.trod_int Yba.underlying37 k0
  obtain ⟨sub, f3, _⟩ := DataW.trod_bool Yba.underlying4 k3
  obtain ⟨sb, f4, _⟩ := DataW.trod_bool Yba.underlying4 k4
  obtain ⟨tb, f5, _⟩ := DataW.trod_bool Yba.underlying4 k5
  have hsl : ∀ {c : Value} {y : DataW H × List MemPlace}, DataW.trod enc Yba.prog W 0 sp held n 26 [c] = some y → ∃ a l k, c = .slice a l k := by
    intro c y h
    rcases open_slice1 Yba.underlying26 (by kernel_rfl) h with ⟨hcs, _⟩ | ⟨a, l, c', m, n, V, D, Pl, hcs, _⟩
    · exact ⟨_, _, _, by simpa using hcs⟩
    · exact ⟨_, _, _, by simpa using hcs⟩
  obtain ⟨aS, lS, cS, rfl⟩ := hsl k1
  obtain ⟨aT, lT, cT, rfl⟩ := hsl k2
  obtain ⟨s, rs, ms⟩ := rowB_of k1
  obtain ⟨t, rt, mt⟩ := rowB_of k2
  simp only [List.cons.injEq, and_true] at f0 f3 f4 f5
  subst f0 f3 f4 f5
  exact ⟨N, aS, aT, lS, cS, lT, cT, sub, sb, tb, s, t, rfl, (bounds_u16 wN).1, (bounds_u16 wN).2, rs, rt, ms, mt⟩

end Go.Proofs.Ybulkamao
