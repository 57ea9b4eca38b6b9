/-
  DERIVED. GIVEN WITH THE SEED: THE CARDS: each row of YbulkaajkFmtRows.lean that lists a variable, with what it lists TIED to the program's text (the seventh form; the later family's looks); each row that meets fmt, with fmt's text TOLD by the authors' own Lean function (tested against real Go, not proved from fmt's source: count such statements apart). THE CARD IS WHAT COUNTS. Prove the row's statement (the work); the ties are given (YbulkaajkFmtTie.lean); close each card by the builder's one call (the guide's Derived/Test/ToyasCard.lean, 'card_holds'). Laid BY PROGRAM, IN A SANDBOX (cutbox-door.mjs). By AI agents, Wed Nov 11 2026. No macro, syntax, notation, axiom, sorry.
-/
import Derived.Test.YbulkaajkFmtRows
import GoSem.ClaimSeven
namespace Go.Proofs.YbulkaajkFmt
namespace Rows

/-- THE TOLD CARD OF 'module.LawS1323ANoSharedCode'. -/
def lawS1323ANoSharedCodeCard : Claim7 := { stood := { row := lawS1323ANoSharedCodeRow, standIns := [], harness := (true, "54f6d754ee7fa01f20e69785045c0105bf55800fc774581a294dedd91e62cdb8"), looks := false }, told := true, goes := false }
def LawS1323ANoSharedCodeToldSaid : Prop := Claim7.holds Ybaf.pinned (.plain (OpenSpec.ofChange lawS1323ANoSharedCodeSpec)) lawS1323ANoSharedCodeCard
/-- ITS FALSE NEIGHBOUR. Refute it at one input. -/
def LawS1323ANoSharedCodeToldWrongFalsely : Prop := Claim7.holds Ybaf.pinned (.plain (OpenSpec.ofChange lawS1323ANoSharedCodeWrong)) lawS1323ANoSharedCodeCard
end Rows
end Go.Proofs.YbulkaajkFmt
