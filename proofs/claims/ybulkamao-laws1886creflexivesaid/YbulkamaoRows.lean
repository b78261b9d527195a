/-
  No cell of these rows narrows 'for every input' (looked for: loops, veiled, ifaces, maps, wideKeys, modest, calm, conditions, laid).
  DERIVED. THE GIVEN ROWS OF THIS SEAT. 6 by the template 'for every input the law returns true; each argument reads behind the call as it read before'; 0 by the template 'total and deterministic' (their statements: YbulkamaoTotals.lean).
  GIVEN WITH THE SEED: the statements are not yours to turn. If you find one false, say at which input.
  Laid BY PROGRAM, IN A SANDBOX (cutbox-rows.mjs): the forced cells as the released guide's own fill.sh prints them over the translation 09208f218d635ce9… (all of the seat's roots in one cut). By AI agents, Wed Nov 11 2026. No macro, syntax, notation, axiom, sorry.
-/
import Derived.Test.YbulkamaoChecked
import GoSem.Claim
import GoSem.ClaimJoined
import GoSem.ClaimMapViews
import Derived.JoinedTies
import Derived.KernelRfl
namespace Go.Proofs.Ybulkamao
/- THE CELL 'sum', in the pinned program and in every row, IS THE sha256 OF THE DUMP (.gsa) THAT YbulkamaoProg.lean LOADS. Nothing in Lean hashes anything: it is a label: what it is worth is what the hold of that sum in a sandbox is worth. -/
noncomputable def Yba.pinned : Pinned := { name := "ybulkamao", sum := "09208f218d635ce9bdb59ea46d4eaa86a7e78f390a6c2809249a52ed960d25d3", checked := Yba.checked }
namespace Rows
def none {H : Type} : Left H := { results := [], args := [] }

/-- 'isolens.LawS1886AStep': WHATEVER THE INPUT: true; the input reads as it did. -/
def lawS1886AStepSpec : ChangeSpec := { name := "lawS1886AStep", fn := fun _ => fun
  | [d1, d2, d3, d4, d5, d6, d7] => { results := [.lit (.bool true)], args := [d1, d2, d3, d4, d5, d6, d7] }
  | _ => none }
def lawS1886AStepRow : OpenClaim := { program := "ybulkamao", sum := "09208f218d635ce9bdb59ea46d4eaa86a7e78f390a6c2809249a52ed960d25d3", func := "example.com/isolens/isolens.LawS1886AStep", spec := "lawS1886AStep", apart := false }
def LawS1886AStepSaid : Prop := lawS1886AStepRow.holds Yba.pinned (OpenSpec.ofChange lawS1886AStepSpec)

/-- ITS FALSE NEIGHBOUR: 'it returns false'. Refute it at one input. -/
def lawS1886AStepWrong : ChangeSpec := { name := "lawS1886AStep", fn := fun _ => fun
  | [d1, d2, d3, d4, d5, d6, d7] => { results := [.lit (.bool false)], args := [d1, d2, d3, d4, d5, d6, d7] }
  | _ => none }
def LawS1886AStepWrongFalsely : Prop := lawS1886AStepRow.holds Yba.pinned (OpenSpec.ofChange lawS1886AStepWrong)

/-- 'isolens.LawS1886AWalk': WHATEVER THE INPUT: true; the input reads as it did. -/
def lawS1886AWalkSpec : ChangeSpec := { name := "lawS1886AWalk", fn := fun _ => fun
  | [d1, d2] => { results := [.lit (.bool true)], args := [d1, d2] }
  | _ => none }
def lawS1886AWalkRow : OpenClaim := { program := "ybulkamao", sum := "09208f218d635ce9bdb59ea46d4eaa86a7e78f390a6c2809249a52ed960d25d3", func := "example.com/isolens/isolens.LawS1886AWalk", spec := "lawS1886AWalk", apart := false }
def LawS1886AWalkSaid : Prop := lawS1886AWalkRow.holds Yba.pinned (OpenSpec.ofChange lawS1886AWalkSpec)

/-- ITS FALSE NEIGHBOUR: 'it returns false'. Refute it at one input. -/
def lawS1886AWalkWrong : ChangeSpec := { name := "lawS1886AWalk", fn := fun _ => fun
  | [d1, d2] => { results := [.lit (.bool false)], args := [d1, d2] }
  | _ => none }
def LawS1886AWalkWrongFalsely : Prop := lawS1886AWalkRow.holds Yba.pinned (OpenSpec.ofChange lawS1886AWalkWrong)

/-- 'isolens.LawS1886BExact': WHATEVER THE INPUT: true; the input reads as it did. -/
def lawS1886BExactSpec : ChangeSpec := { name := "lawS1886BExact", fn := fun _ => fun
  | [d1, d2, d3] => { results := [.lit (.bool true)], args := [d1, d2, d3] }
  | _ => none }
def lawS1886BExactRow : OpenClaim := { program := "ybulkamao", sum := "09208f218d635ce9bdb59ea46d4eaa86a7e78f390a6c2809249a52ed960d25d3", func := "example.com/isolens/isolens.LawS1886BExact", spec := "lawS1886BExact", apart := false }
def LawS1886BExactSaid : Prop := lawS1886BExactRow.holds Yba.pinned (OpenSpec.ofChange lawS1886BExactSpec)

/-- ITS FALSE NEIGHBOUR: 'it returns false'. Refute it at one input. -/
def lawS1886BExactWrong : ChangeSpec := { name := "lawS1886BExact", fn := fun _ => fun
  | [d1, d2, d3] => { results := [.lit (.bool false)], args := [d1, d2, d3] }
  | _ => none }
def LawS1886BExactWrongFalsely : Prop := lawS1886BExactRow.holds Yba.pinned (OpenSpec.ofChange lawS1886BExactWrong)

/-- 'isolens.LawS1886BFresh': WHATEVER THE INPUT: true; the input reads as it did. -/
def lawS1886BFreshSpec : ChangeSpec := { name := "lawS1886BFresh", fn := fun _ => fun
  | [d1, d2, d3] => { results := [.lit (.bool true)], args := [d1, d2, d3] }
  | _ => none }
def lawS1886BFreshRow : OpenClaim := { program := "ybulkamao", sum := "09208f218d635ce9bdb59ea46d4eaa86a7e78f390a6c2809249a52ed960d25d3", func := "example.com/isolens/isolens.LawS1886BFresh", spec := "lawS1886BFresh", apart := false }
def LawS1886BFreshSaid : Prop := lawS1886BFreshRow.holds Yba.pinned (OpenSpec.ofChange lawS1886BFreshSpec)

/-- ITS FALSE NEIGHBOUR: 'it returns false'. Refute it at one input. -/
def lawS1886BFreshWrong : ChangeSpec := { name := "lawS1886BFresh", fn := fun _ => fun
  | [d1, d2, d3] => { results := [.lit (.bool false)], args := [d1, d2, d3] }
  | _ => none }
def LawS1886BFreshWrongFalsely : Prop := lawS1886BFreshRow.holds Yba.pinned (OpenSpec.ofChange lawS1886BFreshWrong)

/-- 'isolens.LawS1886CSubset': WHATEVER THE INPUT: true; the input reads as it did. -/
def lawS1886CSubsetSpec : ChangeSpec := { name := "lawS1886CSubset", fn := fun _ => fun
  | [d] => { results := [.lit (.bool true)], args := [d] }
  | _ => none }
def lawS1886CSubsetRow : OpenClaim := { program := "ybulkamao", sum := "09208f218d635ce9bdb59ea46d4eaa86a7e78f390a6c2809249a52ed960d25d3", func := "example.com/isolens/isolens.LawS1886CSubset", spec := "lawS1886CSubset", unfollowed := true, recurses := true, apart := false }
def LawS1886CSubsetSaid : Prop := lawS1886CSubsetRow.holds Yba.pinned (OpenSpec.ofChange lawS1886CSubsetSpec)

/-- ITS FALSE NEIGHBOUR: 'it returns false'. Refute it at one input. -/
def lawS1886CSubsetWrong : ChangeSpec := { name := "lawS1886CSubset", fn := fun _ => fun
  | [d] => { results := [.lit (.bool false)], args := [d] }
  | _ => none }
def LawS1886CSubsetWrongFalsely : Prop := lawS1886CSubsetRow.holds Yba.pinned (OpenSpec.ofChange lawS1886CSubsetWrong)

/-- 'isolens.LawS1886CReflexive': WHATEVER THE INPUT: true; the input reads as it did. -/
def lawS1886CReflexiveSpec : ChangeSpec := { name := "lawS1886CReflexive", fn := fun _ => fun
  | [d] => { results := [.lit (.bool true)], args := [d] }
  | _ => none }
def lawS1886CReflexiveRow : OpenClaim := { program := "ybulkamao", sum := "09208f218d635ce9bdb59ea46d4eaa86a7e78f390a6c2809249a52ed960d25d3", func := "example.com/isolens/isolens.LawS1886CReflexive", spec := "lawS1886CReflexive", unfollowed := true, recurses := true, apart := false }
def LawS1886CReflexiveSaid : Prop := lawS1886CReflexiveRow.holds Yba.pinned (OpenSpec.ofChange lawS1886CReflexiveSpec)

/-- ITS FALSE NEIGHBOUR: 'it returns false'. Refute it at one input. -/
def lawS1886CReflexiveWrong : ChangeSpec := { name := "lawS1886CReflexive", fn := fun _ => fun
  | [d] => { results := [.lit (.bool false)], args := [d] }
  | _ => none }
def LawS1886CReflexiveWrongFalsely : Prop := lawS1886CReflexiveRow.holds Yba.pinned (OpenSpec.ofChange lawS1886CReflexiveWrong)

end Rows
end Go.Proofs.Ybulkamao
