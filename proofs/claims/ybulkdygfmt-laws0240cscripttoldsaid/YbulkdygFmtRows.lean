/-
  No cell of these rows narrows 'for every input' (looked for: loops, veiled, ifaces, maps, wideKeys, modest, calm, conditions, laid).
  DERIVED. THE GIVEN ROWS OF THIS SEAT. 2 by the template 'for every input the law returns true; each argument reads behind the call as it read before'; 0 by the template 'total and deterministic' (their statements: YbulkdygFmtTotals.lean).
  GIVEN WITH THE SEED: the statements are not yours to turn. If you find one false, say at which input.
  Laid BY PROGRAM, IN A SANDBOX (cutbox-rows.mjs): the forced cells as the released guide's own fill.sh prints them over the translation 11f9a237d8cc30b6… (all of the seat's roots in one cut). By AI agents, Wed Nov 11 2026. No macro, syntax, notation, axiom, sorry.
-/
import Derived.Test.YbulkdygFmtChecked
import GoSem.Claim
import GoSem.ClaimJoined
import GoSem.ClaimMapViews
import Derived.JoinedTies
import Derived.KernelRfl
namespace Go.Proofs.YbulkdygFmt
/- THE CELL 'sum', in the pinned program and in every row, IS THE sha256 OF THE DUMP (.gsa) THAT YbulkdygFmtProg.lean LOADS. Nothing in Lean hashes anything: it is a label: what it is worth is what the hold of that sum in a sandbox is worth. -/
noncomputable def Ybaf.pinned : Pinned := { name := "ybulkdygfmt", sum := "11f9a237d8cc30b690f4b243c1304d969d543e62ccb4bb2e3a63b4ed26143c26", checked := Ybaf.checked }
namespace Rows
def none {H : Type} : Left H := { results := [], args := [] }

/-- 'strawline.LawS0240CScript': WHATEVER THE INPUT: true; the input reads as it did. -/
def lawS0240CScriptSpec : ChangeSpec := { name := "lawS0240CScript", fn := fun _ => fun
  | [d] => { results := [.lit (.bool true)], args := [d] }
  | _ => none }
def lawS0240CScriptRow : OpenClaim := { program := "ybulkdygfmt", sum := "11f9a237d8cc30b690f4b243c1304d969d543e62ccb4bb2e3a63b4ed26143c26", func := "example.com/strawline/strawline.LawS0240CScript", spec := "lawS0240CScript", stops := ["fmt.Sprintf, its operands' methods called"], inPlace := ["fmt.Sprintf"], unfollowed := true, recurses := true, apart := false }
/-- NO THEOREM (fmt's text is open here; it may be false): for the released tool's asking of the row's closed facts alone. THE STATEMENT IS 'LawS0240CScriptToldSaid' (YbulkdygFmtCards.lean). -/
def LawS0240CScriptFormAsk : Prop := lawS0240CScriptRow.holds Ybaf.pinned (OpenSpec.ofChange lawS0240CScriptSpec)

/-- ITS FALSE NEIGHBOUR: 'it returns false'. Refute it at one input. -/
def lawS0240CScriptWrong : ChangeSpec := { name := "lawS0240CScript", fn := fun _ => fun
  | [d] => { results := [.lit (.bool false)], args := [d] }
  | _ => none }
def LawS0240CScriptWrongFormAsk : Prop := lawS0240CScriptRow.holds Ybaf.pinned (OpenSpec.ofChange lawS0240CScriptWrong)

/-- 'strawline.LawS0240COne': WHATEVER THE INPUT: true; the input reads as it did. -/
def lawS0240COneSpec : ChangeSpec := { name := "lawS0240COne", fn := fun _ => fun
  | [d1, d2, d3] => { results := [.lit (.bool true)], args := [d1, d2, d3] }
  | _ => none }
def lawS0240COneRow : OpenClaim := { program := "ybulkdygfmt", sum := "11f9a237d8cc30b690f4b243c1304d969d543e62ccb4bb2e3a63b4ed26143c26", func := "example.com/strawline/strawline.LawS0240COne", spec := "lawS0240COne", stops := ["fmt.Sprintf, its operands' methods called"], inPlace := ["fmt.Sprintf"], unfollowed := true, recurses := true, apart := false }
/-- NO THEOREM (fmt's text is open here; it may be false): for the released tool's asking of the row's closed facts alone. THE STATEMENT IS 'LawS0240COneToldSaid' (YbulkdygFmtCards.lean). -/
def LawS0240COneFormAsk : Prop := lawS0240COneRow.holds Ybaf.pinned (OpenSpec.ofChange lawS0240COneSpec)

/-- ITS FALSE NEIGHBOUR: 'it returns false'. Refute it at one input. -/
def lawS0240COneWrong : ChangeSpec := { name := "lawS0240COne", fn := fun _ => fun
  | [d1, d2, d3] => { results := [.lit (.bool false)], args := [d1, d2, d3] }
  | _ => none }
def LawS0240COneWrongFormAsk : Prop := lawS0240COneRow.holds Ybaf.pinned (OpenSpec.ofChange lawS0240COneWrong)

end Rows
end Go.Proofs.YbulkdygFmt
