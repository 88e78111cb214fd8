/-
  No cell of these rows narrows 'for every input' (looked for: loops, veiled, ifaces, maps, wideKeys, modest, calm, conditions, laid).
  DERIVED. THE GIVEN ROWS OF THIS SEAT. 2 by the template 'for every input the law returns true; each argument reads behind the call as it read before'; 0 by the template 'total and deterministic' (their statements: YbulkcwdyFmtTotals.lean).
  GIVEN WITH THE SEED: the statements are not yours to turn. If you find one false, say at which input.
  Laid BY PROGRAM, IN A SANDBOX (cutbox-rows.mjs): the forced cells as the released guide's own fill.sh prints them over the translation 1aa2186af94d76eb… (all of the seat's roots in one cut). By AI agents, Wed Nov 11 2026. No macro, syntax, notation, axiom, sorry.
-/
import Derived.Test.YbulkcwdyFmtChecked
import GoSem.Claim
import GoSem.ClaimJoined
import GoSem.ClaimMapViews
import Derived.JoinedTies
import Derived.KernelRfl
namespace Go.Proofs.YbulkcwdyFmt
/- THE CELL 'sum', in the pinned program and in every row, IS THE sha256 OF THE DUMP (.gsa) THAT YbulkcwdyFmtProg.lean LOADS. Nothing in Lean hashes anything: it is a label: what it is worth is what the hold of that sum in a sandbox is worth. -/
noncomputable def Ybaf.pinned : Pinned := { name := "ybulkcwdyfmt", sum := "1aa2186af94d76eba03da76e9250ce3de8a109acada88ab334f5edeafec0f4ab", checked := Ybaf.checked }
namespace Rows
def none {H : Type} : Left H := { results := [], args := [] }

/-- 'ebbclock.LawS4886CRefuse': WHATEVER THE INPUT: true; the input reads as it did. -/
def lawS4886CRefuseSpec : ChangeSpec := { name := "lawS4886CRefuse", fn := fun _ => fun
  | [d1, d2, d3, d4, d5, d6] => { results := [.lit (.bool true)], args := [d1, d2, d3, d4, d5, d6] }
  | _ => none }
def lawS4886CRefuseRow : OpenClaim := { program := "ybulkcwdyfmt", sum := "1aa2186af94d76eba03da76e9250ce3de8a109acada88ab334f5edeafec0f4ab", func := "example.com/ebbclock/ebbclock.LawS4886CRefuse", spec := "lawS4886CRefuse", stops := ["fmt.errorf"], inPlace := ["fmt.errorf"], apart := false }
/-- NO THEOREM (fmt's text is open here; it may be false): for the released tool's asking of the row's closed facts alone. THE STATEMENT IS 'LawS4886CRefuseToldSaid' (YbulkcwdyFmtCards.lean). -/
def LawS4886CRefuseFormAsk : Prop := lawS4886CRefuseRow.holds Ybaf.pinned (OpenSpec.ofChange lawS4886CRefuseSpec)

/-- ITS FALSE NEIGHBOUR: 'it returns false'. Refute it at one input. -/
def lawS4886CRefuseWrong : ChangeSpec := { name := "lawS4886CRefuse", fn := fun _ => fun
  | [d1, d2, d3, d4, d5, d6] => { results := [.lit (.bool false)], args := [d1, d2, d3, d4, d5, d6] }
  | _ => none }
def LawS4886CRefuseWrongFormAsk : Prop := lawS4886CRefuseRow.holds Ybaf.pinned (OpenSpec.ofChange lawS4886CRefuseWrong)

/-- 'ebbclock.LawS4886CValid': WHATEVER THE INPUT: true; the input reads as it did. -/
def lawS4886CValidSpec : ChangeSpec := { name := "lawS4886CValid", fn := fun _ => fun
  | [d1, d2, d3, d4] => { results := [.lit (.bool true)], args := [d1, d2, d3, d4] }
  | _ => none }
def lawS4886CValidRow : OpenClaim := { program := "ybulkcwdyfmt", sum := "1aa2186af94d76eba03da76e9250ce3de8a109acada88ab334f5edeafec0f4ab", func := "example.com/ebbclock/ebbclock.LawS4886CValid", spec := "lawS4886CValid", stops := ["fmt.errorf"], inPlace := ["fmt.errorf"], apart := false }
/-- NO THEOREM (fmt's text is open here; it may be false): for the released tool's asking of the row's closed facts alone. THE STATEMENT IS 'LawS4886CValidToldSaid' (YbulkcwdyFmtCards.lean). -/
def LawS4886CValidFormAsk : Prop := lawS4886CValidRow.holds Ybaf.pinned (OpenSpec.ofChange lawS4886CValidSpec)

/-- ITS FALSE NEIGHBOUR: 'it returns false'. Refute it at one input. -/
def lawS4886CValidWrong : ChangeSpec := { name := "lawS4886CValid", fn := fun _ => fun
  | [d1, d2, d3, d4] => { results := [.lit (.bool false)], args := [d1, d2, d3, d4] }
  | _ => none }
def LawS4886CValidWrongFormAsk : Prop := lawS4886CValidRow.holds Ybaf.pinned (OpenSpec.ofChange lawS4886CValidWrong)

end Rows
end Go.Proofs.YbulkcwdyFmt
