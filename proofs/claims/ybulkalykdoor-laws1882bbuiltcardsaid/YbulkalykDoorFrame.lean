/-
  What the listed table gives the walks; the door's own heap meets the condition.
-/
import Derived.Test.YbulkalykDoorRows
import Derived.Test.YbulkalykDoorPlain
import Derived.WalkKit
import Derived.ProofKit
import Derived.OpenShut
import Derived.LaidMore
import Derived.ChangeOld
import Derived.Below
import Derived.Stop.Joined
namespace Go.Proofs.YbulkalykDoor
open Go.ChangeShapes Go.WideShapes Go.ChangeAt Go.RowKit Go.Proofs.YbulkalykDoor.Plain

theorem own : ownKnob Ybad.prog.godebug = none := by kernel_rfl
theorem laidOut : laidOutB Ybad.prog = true := by kernel_rfl

/-- The table's name and the list of what is laid, as the given rows have them. -/
abbrev tabName : String := (Rows.lawS1882BModelRow.laid.map (·.1)).headD ""
abbrev tabLaid : List (String × DataW Unit) := Rows.lawS1882BModelRow.laid
theorem gE : Ybad.prog.globalNamed tabName = some 0 := by kernel_rfl
theorem tE : (Ybad.prog.globals[0]?).map (·.type) = some 28 := by kernel_rfl
theorem c4 : Ybad.prog.cellsOf 4 = 1 := by kernel_rfl
theorem datum_is {H : Type} : (Rows.laid_example_com_tidewise_tidewise_internal_jsonscan_endsScalar : DataW H) = .agg ((List.range 256).map fun (c : Nat) => .lit (.bool (endsB (c : Int)))) := by kernel_rfl

theorem door_met (os : Os) (args : Array Value) : laidMetH Ybad.prog tabLaid ((World.doorLaid Ybad.prog 400 os).forCall (fun _ _ => 0) ⟨#[], args, []⟩).memory :=
  laidMetH_of_parts3 (fuel := 8) (laidMet_of_run' 8 (by kernel_rfl) (by kernel_rfl)) (by kernel_rfl) (by kernel_rfl)

theorem of_laid {W : World} (h : laidMetH Ybad.prog tabLaid W) : ∀ c : Nat, c < 256 → W.cell? ⟨0, c, none⟩ = some (.bool (endsB (c : Int))) := by
  rw [MakeChecks.laidMetH_plain _ _ _ (by kernel_rfl)] at h
  obtain ⟨ps, ⟨g, t, cs, f, p, q, hg, ht, hv, hd, _, _⟩, _, _⟩ := h
  obtain rfl := Option.some.inj (gE.symm.trans hg)
  obtain rfl := Option.some.inj (tE.symm.trans ht)
  intro c hc
  obtain ⟨xs, m, rfl, hx, hlen, hn, hel⟩ := DataW.trod_array Ybad.underlying28 hd
  have h0 := hel c hc
  rw [c4] at h0
  rw [datum_is] at hx
  simp only [Prod.mk.injEq, DataW.agg.injEq] at hx
  have hxc : (xs.map (·.1))[c]? = some (.lit (.bool (endsB (c : Int)))) := by rw [← hx.1]; simp [hc]
  obtain ⟨y, hy, hy1⟩ := (by simpa using hxc : ∃ y, xs[c]? = some y ∧ y.1 = .lit (.bool (endsB (c : Int))))
  rw [hy] at h0
  obtain ⟨b, e1, e2⟩ := DataW.trod_bool Ybad.underlying4 h0
  have hb : b = endsB (c : Int) := by rw [e2] at hy1; simpa using hy1
  rw [World.var?_cell hg hv c]
  have e3 := congrArg (·[0]?) e1
  simp at e3
  rw [← hb]
  simpa using e3
end Go.Proofs.YbulkalykDoor
