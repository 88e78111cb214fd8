/-
  No cell of these rows narrows 'for every input' (looked for: loops, veiled, ifaces, maps, wideKeys, modest, calm, conditions, laid).
  DERIVED. THE GIVEN ROWS OF THIS SEAT. 3 by the template 'for every input the law returns true; each argument reads behind the call as it read before'; 0 by the template 'total and deterministic' (their statements: YbulkcwdyTotals.lean).
  GIVEN WITH THE SEED: the statements are not yours to turn. If you find one false, say at which input.
  Laid BY PROGRAM, IN A SANDBOX (cutbox-rows.mjs): the forced cells as the released guide's own fill.sh prints them over the translation adb7134f8a629ebf… (all of the seat's roots in one cut). By AI agents, Wed Nov 11 2026. No macro, syntax, notation, axiom, sorry.
-/
import Derived.Test.YbulkcwdyChecked
import GoSem.Claim
import GoSem.ClaimJoined
import GoSem.ClaimMapViews
import Derived.JoinedTies
import Derived.KernelRfl
namespace Go.Proofs.Ybulkcwdy
/- THE CELL 'sum', in the pinned program and in every row, IS THE sha256 OF THE DUMP (.gsa) THAT YbulkcwdyProg.lean LOADS. Nothing in Lean hashes anything: it is a label: what it is worth is what the hold of that sum in a sandbox is worth. -/
noncomputable def Yba.pinned : Pinned := { name := "ybulkcwdy", sum := "adb7134f8a629ebfb5d083a15849ab8244f70c8736ff76dee8f4fe07ccd7e7e9", checked := Yba.checked }
namespace Rows
def none {H : Type} : Left H := { results := [], args := [] }

/-- 'runlog.LawS4886AMove': WHATEVER THE INPUT: true; the input reads as it did. -/
def lawS4886AMoveSpec : ChangeSpec := { name := "lawS4886AMove", fn := fun _ => fun
  | [d1, d2] => { results := [.lit (.bool true)], args := [d1, d2] }
  | _ => none }
def lawS4886AMoveRow : OpenClaim := { program := "ybulkcwdy", sum := "adb7134f8a629ebfb5d083a15849ab8244f70c8736ff76dee8f4fe07ccd7e7e9", func := "example.com/ebbclock/ebbclock/runlog.LawS4886AMove", spec := "lawS4886AMove", unfollowed := true, recurses := true, apart := false }
def LawS4886AMoveSaid : Prop := lawS4886AMoveRow.holds Yba.pinned (OpenSpec.ofChange lawS4886AMoveSpec)

/-- ITS FALSE NEIGHBOUR: 'it returns false'. Refute it at one input. -/
def lawS4886AMoveWrong : ChangeSpec := { name := "lawS4886AMove", fn := fun _ => fun
  | [d1, d2] => { results := [.lit (.bool false)], args := [d1, d2] }
  | _ => none }
def LawS4886AMoveWrongFalsely : Prop := lawS4886AMoveRow.holds Yba.pinned (OpenSpec.ofChange lawS4886AMoveWrong)

/-- 'runlog.LawS4886AReorder': WHATEVER THE INPUT: true; the input reads as it did. -/
def lawS4886AReorderSpec : ChangeSpec := { name := "lawS4886AReorder", fn := fun _ => fun
  | [d1, d2] => { results := [.lit (.bool true)], args := [d1, d2] }
  | _ => none }
def lawS4886AReorderRow : OpenClaim := { program := "ybulkcwdy", sum := "adb7134f8a629ebfb5d083a15849ab8244f70c8736ff76dee8f4fe07ccd7e7e9", func := "example.com/ebbclock/ebbclock/runlog.LawS4886AReorder", spec := "lawS4886AReorder", unfollowed := true, recurses := true, apart := false }
def LawS4886AReorderSaid : Prop := lawS4886AReorderRow.holds Yba.pinned (OpenSpec.ofChange lawS4886AReorderSpec)

/-- ITS FALSE NEIGHBOUR: 'it returns false'. Refute it at one input. -/
def lawS4886AReorderWrong : ChangeSpec := { name := "lawS4886AReorder", fn := fun _ => fun
  | [d1, d2] => { results := [.lit (.bool false)], args := [d1, d2] }
  | _ => none }
def LawS4886AReorderWrongFalsely : Prop := lawS4886AReorderRow.holds Yba.pinned (OpenSpec.ofChange lawS4886AReorderWrong)

/-- 'runlog.LawS4886BAt': WHATEVER THE INPUT: true; the input reads as it did. -/
def lawS4886BAtSpec : ChangeSpec := { name := "lawS4886BAt", fn := fun _ => fun
  | [d1, d2, d3, d4, d5, d6] => { results := [.lit (.bool true)], args := [d1, d2, d3, d4, d5, d6] }
  | _ => none }
def lawS4886BAtRow : OpenClaim := { program := "ybulkcwdy", sum := "adb7134f8a629ebfb5d083a15849ab8244f70c8736ff76dee8f4fe07ccd7e7e9", func := "example.com/ebbclock/ebbclock/runlog.LawS4886BAt", spec := "lawS4886BAt", apart := false }
def LawS4886BAtSaid : Prop := lawS4886BAtRow.holds Yba.pinned (OpenSpec.ofChange lawS4886BAtSpec)

/-- ITS FALSE NEIGHBOUR: 'it returns false'. Refute it at one input. -/
def lawS4886BAtWrong : ChangeSpec := { name := "lawS4886BAt", fn := fun _ => fun
  | [d1, d2, d3, d4, d5, d6] => { results := [.lit (.bool false)], args := [d1, d2, d3, d4, d5, d6] }
  | _ => none }
def LawS4886BAtWrongFalsely : Prop := lawS4886BAtRow.holds Yba.pinned (OpenSpec.ofChange lawS4886BAtWrong)

end Rows
end Go.Proofs.Ybulkcwdy
