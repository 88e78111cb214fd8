/-
  NARROWER THAN 'FOR EVERY INPUT', by the rows' own cells (each row's printed sentence says how): LawS4900ADecode: ifaces, laid.
  DERIVED. THE GIVEN ROWS OF THIS SEAT. 1 by the template 'for every input the law returns true; each argument reads behind the call as it read before'; 0 by the template 'total and deterministic' (their statements: YbulkcwlmDoorTotals.lean).
  GIVEN WITH THE SEED: the statements are not yours to turn. If you find one false, say at which input.
  Laid BY PROGRAM, IN A SANDBOX (cutbox-rows.mjs): the forced cells as the released guide's own fill.sh prints them over the translation 15e997a446abbe01… (all of the seat's roots in one cut). By AI agents, Wed Nov 11 2026. No macro, syntax, notation, axiom, sorry.
-/
import Derived.Test.YbulkcwlmDoorChecked
import GoSem.Claim
import GoSem.ClaimJoined
import GoSem.ClaimMapViews
import Derived.JoinedTies
import Derived.KernelRfl
namespace Go.Proofs.YbulkcwlmDoor
/- THE CELL 'sum', in the pinned program and in every row, IS THE sha256 OF THE DUMP (.gsa) THAT YbulkcwlmDoorProg.lean LOADS. Nothing in Lean hashes anything: it is a label: what it is worth is what the hold of that sum in a sandbox is worth. -/
noncomputable def Ybad.pinned : Pinned := { name := "ybulkcwlmdoor", sum := "15e997a446abbe01c80fc9d2788a49887d0804443d9e3434ab7f72ad5b364022", checked := Ybad.checked }
namespace Rows
def none {H : Type} : Left H := { results := [], args := [] }

/- WHAT THE LISTED PACKAGE-LEVEL VARIABLES READ AS WHEN THE CALL BEGINS. Each datum BY PROGRAM (the guide's laid-datum.mjs) off the statement by which the dump's own 'gosem.cut.vars' lays the variable. In a bare row this is a premise. The card (YbulkcwlmDoorCards.lean) ties it to the program's text. -/
def laid_example_com_nameprobe_nameprobe_internal_dnswire_ErrRdata {H : Type} : DataW H := .iface "*errors.errorString" (.ptr (.agg [.lit (.string [114, 101, 99, 111, 114, 100, 32, 100, 97, 116, 97, 32, 100, 111, 101, 115, 32, 110, 111, 116, 32, 102, 105, 108, 108, 32, 105, 116, 115, 32, 108, 101, 110, 103, 116, 104])]))

/-- 'dnswire.LawS4900ADecode': WHATEVER THE INPUT: true; the input reads as it did. -/
def lawS4900ADecodeSpec : ChangeSpec := { name := "lawS4900ADecode", vars := ["example.com/nameprobe/nameprobe/internal/dnswire.ErrRdata"], fn := fun _ => fun
  | [d1, d2, d3, g1] => { results := [.lit (.bool true)], args := [d1, d2, d3], vars := [g1] }
  | _ => none }
def lawS4900ADecodeRow : OpenClaim := { program := "ybulkcwlmdoor", sum := "15e997a446abbe01c80fc9d2788a49887d0804443d9e3434ab7f72ad5b364022", func := "example.com/nameprobe/nameprobe/internal/dnswire.LawS4900ADecode", spec := "lawS4900ADecode", named := ["example.com/nameprobe/nameprobe/internal/dnswire.ErrRdata"], ifaces := true, plainKeys := false, apart := false, laid := [("example.com/nameprobe/nameprobe/internal/dnswire.ErrRdata", laid_example_com_nameprobe_nameprobe_internal_dnswire_ErrRdata)] }
def LawS4900ADecodeSaid : Prop := lawS4900ADecodeRow.holds Ybad.pinned (OpenSpec.ofChange lawS4900ADecodeSpec)

/-- ITS FALSE NEIGHBOUR: 'it returns false'. Refute it at one input. -/
def lawS4900ADecodeWrong : ChangeSpec := { name := "lawS4900ADecode", vars := ["example.com/nameprobe/nameprobe/internal/dnswire.ErrRdata"], fn := fun _ => fun
  | [d1, d2, d3, g1] => { results := [.lit (.bool false)], args := [d1, d2, d3], vars := [g1] }
  | _ => none }
def LawS4900ADecodeWrongFalsely : Prop := lawS4900ADecodeRow.holds Ybad.pinned (OpenSpec.ofChange lawS4900ADecodeWrong)

end Rows
end Go.Proofs.YbulkcwlmDoor
