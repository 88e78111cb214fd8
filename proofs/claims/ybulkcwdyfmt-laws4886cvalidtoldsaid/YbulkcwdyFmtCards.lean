/-
  DERIVED. GIVEN WITH THE SEED: THE CARDS: each row of YbulkcwdyFmtRows.lean that lists a variable, with what it lists TIED to the program's text (the seventh form; the later family's looks); each row that meets fmt, with fmt's text TOLD by the authors' own Lean function (tested against real Go, not proved from fmt's source: count such statements apart). THE CARD IS WHAT COUNTS. Prove the row's statement (the work); the ties are given (YbulkcwdyFmtTie.lean); close each card by the builder's one call (the guide's Derived/Test/ToyasCard.lean, 'card_holds'). Laid BY PROGRAM, IN A SANDBOX (cutbox-door.mjs). By AI agents, Wed Nov 11 2026. No macro, syntax, notation, axiom, sorry.
-/
import Derived.Test.YbulkcwdyFmtRows
import GoSem.ClaimSeven
namespace Go.Proofs.YbulkcwdyFmt
namespace Rows

/-- THE TOLD CARD OF 'ebbclock.LawS4886CRefuse'. -/
def lawS4886CRefuseCard : Claim7 := { stood := { row := lawS4886CRefuseRow, standIns := [], harness := (true, "ffbd13061ba017251c25f463e21d9b7a7c0ab0c931781872ab580c797638c1e4"), looks := false }, told := true, goes := false }
def LawS4886CRefuseToldSaid : Prop := Claim7.holds Ybaf.pinned (.plain (OpenSpec.ofChange lawS4886CRefuseSpec)) lawS4886CRefuseCard
/-- ITS FALSE NEIGHBOUR. Refute it at one input. -/
def LawS4886CRefuseToldWrongFalsely : Prop := Claim7.holds Ybaf.pinned (.plain (OpenSpec.ofChange lawS4886CRefuseWrong)) lawS4886CRefuseCard

/-- THE TOLD CARD OF 'ebbclock.LawS4886CValid'. -/
def lawS4886CValidCard : Claim7 := { stood := { row := lawS4886CValidRow, standIns := [], harness := (true, "ffbd13061ba017251c25f463e21d9b7a7c0ab0c931781872ab580c797638c1e4"), looks := false }, told := true, goes := false }
def LawS4886CValidToldSaid : Prop := Claim7.holds Ybaf.pinned (.plain (OpenSpec.ofChange lawS4886CValidSpec)) lawS4886CValidCard
/-- ITS FALSE NEIGHBOUR. Refute it at one input. -/
def LawS4886CValidToldWrongFalsely : Prop := Claim7.holds Ybaf.pinned (.plain (OpenSpec.ofChange lawS4886CValidWrong)) lawS4886CValidCard
end Rows
end Go.Proofs.YbulkcwdyFmt
