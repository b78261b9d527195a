/-
  DERIVED. GIVEN WITH THE SEED: THE CARDS: each row of YbulkalykDoorRows.lean that lists a variable, with what it lists TIED to the program's text (the seventh form; the later family's looks); each row that meets fmt, with fmt's text TOLD by the authors' own Lean function (tested against real Go, not proved from fmt's source: count such statements apart). THE CARD IS WHAT COUNTS. Prove the row's statement (the work); the ties are given (YbulkalykDoorTie.lean); close each card by the builder's one call (the guide's Derived/Test/ToyasCard.lean, 'card_holds'). Laid BY PROGRAM, IN A SANDBOX (cutbox-door.mjs). By AI agents, Wed Nov 11 2026. No macro, syntax, notation, axiom, sorry.
-/
import Derived.Test.YbulkalykDoorRows
import GoSem.ClaimSeven
namespace Go.Proofs.YbulkalykDoor
namespace Rows

/-- THE TIED CARD OF 'jsonscan.LawS1882BBuilt'. -/
def lawS1882BBuiltCard : Claim7 := { stood := { row := lawS1882BBuiltRow, standIns := [], harness := (true, "268dc4458ef0650d543c63becd959525edf4f4e3a0070018086ac6dfe6684ccc"), looks := false }, kinds := [], alts := [], laidByText := true, laidKinds := [.data], laidTests := true, laidLooks := .later }
def LawS1882BBuiltCardSaid : Prop := Claim7.holds Ybad.pinned (.plain (OpenSpec.ofChange lawS1882BBuiltSpec)) lawS1882BBuiltCard

/-- THE TIED CARD OF 'jsonscan.LawS1882BModel'. -/
def lawS1882BModelCard : Claim7 := { stood := { row := lawS1882BModelRow, standIns := [], harness := (true, "268dc4458ef0650d543c63becd959525edf4f4e3a0070018086ac6dfe6684ccc"), looks := false }, kinds := [], alts := [], laidByText := true, laidKinds := [.data], laidTests := true, laidLooks := .later }
def LawS1882BModelCardSaid : Prop := Claim7.holds Ybad.pinned (.plain (OpenSpec.ofChange lawS1882BModelSpec)) lawS1882BModelCard
end Rows
end Go.Proofs.YbulkalykDoor
