/-
  No cell of these rows narrows 'for every input' (looked for: loops, veiled, ifaces, maps, wideKeys, modest, calm, conditions, laid).
  DERIVED. THE GIVEN ROWS OF THIS SEAT. 2 by the template 'for every input the law returns true; each argument reads behind the call as it read before'; 0 by the template 'total and deterministic' (their statements: YbulkcwfoTotals.lean).
  GIVEN WITH THE SEED: the statements are not yours to turn. If you find one false, say at which input.
  Laid BY PROGRAM, IN A SANDBOX (cutbox-rows.mjs): the forced cells as the released guide's own fill.sh prints them over the translation d8406f9fe308164e… (all of the seat's roots in one cut). By AI agents, Wed Nov 11 2026. No macro, syntax, notation, axiom, sorry.
-/
import Derived.Test.YbulkcwfoChecked
import GoSem.Claim
import GoSem.ClaimJoined
import GoSem.ClaimMapViews
import Derived.JoinedTies
import Derived.KernelRfl
namespace Go.Proofs.Ybulkcwfo
/- THE CELL 'sum', in the pinned program and in every row, IS THE sha256 OF THE DUMP (.gsa) THAT YbulkcwfoProg.lean LOADS. Nothing in Lean hashes anything: it is a label: what it is worth is what the hold of that sum in a sandbox is worth. -/
noncomputable def Yba.pinned : Pinned := { name := "ybulkcwfo", sum := "d8406f9fe308164effcfbba2f3fcca8fd9116ffc4c92747622e9a0aa0fb7b766", checked := Yba.checked }
namespace Rows
def none {H : Type} : Left H := { results := [], args := [] }

/-- 'consensus.LawS4889AExact': WHATEVER THE INPUT: true; the input reads as it did. -/
def lawS4889AExactSpec : ChangeSpec := { name := "lawS4889AExact", fn := fun _ => fun
  | [d1, d2, d3] => { results := [.lit (.bool true)], args := [d1, d2, d3] }
  | _ => none }
def lawS4889AExactRow : OpenClaim := { program := "ybulkcwfo", sum := "d8406f9fe308164effcfbba2f3fcca8fd9116ffc4c92747622e9a0aa0fb7b766", func := "example.com/quorate/quorate/internal/consensus.LawS4889AExact", spec := "lawS4889AExact", plainKeys := false, apart := false }
def LawS4889AExactSaid : Prop := lawS4889AExactRow.holds Yba.pinned (OpenSpec.ofChange lawS4889AExactSpec)

/-- ITS FALSE NEIGHBOUR: 'it returns false'. Refute it at one input. -/
def lawS4889AExactWrong : ChangeSpec := { name := "lawS4889AExact", fn := fun _ => fun
  | [d1, d2, d3] => { results := [.lit (.bool false)], args := [d1, d2, d3] }
  | _ => none }
def LawS4889AExactWrongFalsely : Prop := lawS4889AExactRow.holds Yba.pinned (OpenSpec.ofChange lawS4889AExactWrong)

/-- 'consensus.LawS4889ACounted': WHATEVER THE INPUT: true; the input reads as it did. -/
def lawS4889ACountedSpec : ChangeSpec := { name := "lawS4889ACounted", fn := fun _ => fun
  | [d1, d2, d3] => { results := [.lit (.bool true)], args := [d1, d2, d3] }
  | _ => none }
def lawS4889ACountedRow : OpenClaim := { program := "ybulkcwfo", sum := "d8406f9fe308164effcfbba2f3fcca8fd9116ffc4c92747622e9a0aa0fb7b766", func := "example.com/quorate/quorate/internal/consensus.LawS4889ACounted", spec := "lawS4889ACounted", plainKeys := false, apart := false }
def LawS4889ACountedSaid : Prop := lawS4889ACountedRow.holds Yba.pinned (OpenSpec.ofChange lawS4889ACountedSpec)

/-- ITS FALSE NEIGHBOUR: 'it returns false'. Refute it at one input. -/
def lawS4889ACountedWrong : ChangeSpec := { name := "lawS4889ACounted", fn := fun _ => fun
  | [d1, d2, d3] => { results := [.lit (.bool false)], args := [d1, d2, d3] }
  | _ => none }
def LawS4889ACountedWrongFalsely : Prop := lawS4889ACountedRow.holds Yba.pinned (OpenSpec.ofChange lawS4889ACountedWrong)

end Rows
end Go.Proofs.Ybulkcwfo
