/-
  DERIVED. GIVEN WITH THE SEED: THE CARDS: each row of YbulkdygFmtRows.lean that lists a variable, with what it lists TIED to the program's text (the seventh form; the later family's looks); each row that meets fmt, with fmt's text TOLD by the authors' own Lean function (tested against real Go, not proved from fmt's source: count such statements apart). THE CARD IS WHAT COUNTS. Prove the row's statement (the work); the ties are given (YbulkdygFmtTie.lean); close each card by the builder's one call (the guide's Derived/Test/ToyasCard.lean, 'card_holds'). Laid BY PROGRAM, IN A SANDBOX (cutbox-door.mjs). By AI agents, Wed Nov 11 2026. No macro, syntax, notation, axiom, sorry.
-/
import Derived.Test.YbulkdygFmtRows
import GoSem.ClaimSeven
namespace Go.Proofs.YbulkdygFmt
namespace Rows

/-- THE TOLD CARD OF 'strawline.LawS0240CScript'. -/
def lawS0240CScriptCard : Claim7 := { stood := { row := lawS0240CScriptRow, standIns := [], harness := (true, "92dd8129ce538e90b7d27c8a6f687effcabb72d69ff686f9609760ea2ca5fd39"), looks := true }, told := true, goes := false }
def LawS0240CScriptToldSaid : Prop := Claim7.holds Ybaf.pinned (.plain (OpenSpec.ofChange lawS0240CScriptSpec)) lawS0240CScriptCard
/-- ITS FALSE NEIGHBOUR. Refute it at one input. -/
def LawS0240CScriptToldWrongFalsely : Prop := Claim7.holds Ybaf.pinned (.plain (OpenSpec.ofChange lawS0240CScriptWrong)) lawS0240CScriptCard

/-- THE TOLD CARD OF 'strawline.LawS0240COne'. -/
def lawS0240COneCard : Claim7 := { stood := { row := lawS0240COneRow, standIns := [], harness := (true, "92dd8129ce538e90b7d27c8a6f687effcabb72d69ff686f9609760ea2ca5fd39"), looks := true }, told := true, goes := false }
def LawS0240COneToldSaid : Prop := Claim7.holds Ybaf.pinned (.plain (OpenSpec.ofChange lawS0240COneSpec)) lawS0240COneCard
/-- ITS FALSE NEIGHBOUR. Refute it at one input. -/
def LawS0240COneToldWrongFalsely : Prop := Claim7.holds Ybaf.pinned (.plain (OpenSpec.ofChange lawS0240COneWrong)) lawS0240COneCard
end Rows
end Go.Proofs.YbulkdygFmt
