/-
  DERIVED. GIVEN WITH THE SEED: THE CARDS: each row of YbulkcwlmDoorRows.lean that lists a variable, with what it lists TIED to the program's text (the seventh form; the later family's looks); each row that meets fmt, with fmt's text TOLD by the authors' own Lean function (tested against real Go, not proved from fmt's source: count such statements apart). THE CARD IS WHAT COUNTS. Prove the row's statement (the work); the ties are given (YbulkcwlmDoorTie.lean); close each card by the builder's one call (the guide's Derived/Test/ToyasCard.lean, 'card_holds'). Laid BY PROGRAM, IN A SANDBOX (cutbox-door.mjs). By AI agents, Wed Nov 11 2026. No macro, syntax, notation, axiom, sorry.
-/
import Derived.Test.YbulkcwlmDoorRows
import GoSem.ClaimSeven
namespace Go.Proofs.YbulkcwlmDoor
namespace Rows

/-- THE TIED CARD OF 'dnswire.LawS4900ADecode'. -/
def lawS4900ADecodeCard : Claim7 := { stood := { row := lawS4900ADecodeRow, standIns := [], harness := (true, "ef82410b32a051358c64be41c9439b4490917759f79d945b55204b23f431cf71"), looks := true }, kinds := [], alts := [], laidByText := true, laidKinds := [.sentinel], laidTests := true, laidLooks := .later }
def LawS4900ADecodeCardSaid : Prop := Claim7.holds Ybad.pinned (.plain (OpenSpec.ofChange lawS4900ADecodeSpec)) lawS4900ADecodeCard
end Rows
end Go.Proofs.YbulkcwlmDoor
