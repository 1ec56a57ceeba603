/-
  No cell of these rows narrows 'for every input' (looked for: loops, veiled, ifaces, maps, wideKeys, modest, calm, conditions, laid).
  DERIVED. THE GIVEN ROWS OF THIS SEAT. 2 by the template 'for every input the law returns true; each argument reads behind the call as it read before'; 0 by the template 'total and deterministic' (their statements: YbulkdziTotals.lean).
  GIVEN WITH THE SEED: the statements are not yours to turn. If you find one false, say at which input.
  Laid BY PROGRAM, IN A SANDBOX (cutbox-rows.mjs): the forced cells as the released guide's own fill.sh prints them over the translation 43c73ab53cce1199… (all of the seat's roots in one cut). By AI agents, Wed Nov 11 2026. No macro, syntax, notation, axiom, sorry.
-/
import Derived.Test.YbulkdziChecked
import GoSem.Claim
import GoSem.ClaimJoined
import GoSem.ClaimMapViews
import Derived.JoinedTies
import Derived.KernelRfl
namespace Go.Proofs.Ybulkdzi
/- THE CELL 'sum', in the pinned program and in every row, IS THE sha256 OF THE DUMP (.gsa) THAT YbulkdziProg.lean LOADS. Nothing in Lean hashes anything: it is a label: what it is worth is what the hold of that sum in a sandbox is worth. -/
noncomputable def Yba.pinned : Pinned := { name := "ybulkdzi", sum := "43c73ab53cce1199b0d344b925e8fb7b7c8ffa0e2bbcd98dbd802dcca4b1246e", checked := Yba.checked }
namespace Rows
def none {H : Type} : Left H := { results := [], args := [] }

/-- 'put.LawS0242CPrefix': WHATEVER THE INPUT: true; the input reads as it did. -/
def lawS0242CPrefixSpec : ChangeSpec := { name := "lawS0242CPrefix", fn := fun _ => fun
  | [d] => { results := [.lit (.bool true)], args := [d] }
  | _ => none }
def lawS0242CPrefixRow : OpenClaim := { program := "ybulkdzi", sum := "43c73ab53cce1199b0d344b925e8fb7b7c8ffa0e2bbcd98dbd802dcca4b1246e", func := "example.com/tallyline/tallyline/put.LawS0242CPrefix", spec := "lawS0242CPrefix", apart := false }
def LawS0242CPrefixSaid : Prop := lawS0242CPrefixRow.holds Yba.pinned (OpenSpec.ofChange lawS0242CPrefixSpec)

/-- ITS FALSE NEIGHBOUR: 'it returns false'. Refute it at one input. -/
def lawS0242CPrefixWrong : ChangeSpec := { name := "lawS0242CPrefix", fn := fun _ => fun
  | [d] => { results := [.lit (.bool false)], args := [d] }
  | _ => none }
def LawS0242CPrefixWrongFalsely : Prop := lawS0242CPrefixRow.holds Yba.pinned (OpenSpec.ofChange lawS0242CPrefixWrong)

/-- 'put.LawS0242CBuilt': WHATEVER THE INPUT: true; the input reads as it did. -/
def lawS0242CBuiltSpec : ChangeSpec := { name := "lawS0242CBuilt", fn := fun _ => fun
  | [d1, d2, d3] => { results := [.lit (.bool true)], args := [d1, d2, d3] }
  | _ => none }
def lawS0242CBuiltRow : OpenClaim := { program := "ybulkdzi", sum := "43c73ab53cce1199b0d344b925e8fb7b7c8ffa0e2bbcd98dbd802dcca4b1246e", func := "example.com/tallyline/tallyline/put.LawS0242CBuilt", spec := "lawS0242CBuilt", apart := false }
def LawS0242CBuiltSaid : Prop := lawS0242CBuiltRow.holds Yba.pinned (OpenSpec.ofChange lawS0242CBuiltSpec)

/-- ITS FALSE NEIGHBOUR: 'it returns false'. Refute it at one input. -/
def lawS0242CBuiltWrong : ChangeSpec := { name := "lawS0242CBuilt", fn := fun _ => fun
  | [d1, d2, d3] => { results := [.lit (.bool false)], args := [d1, d2, d3] }
  | _ => none }
def LawS0242CBuiltWrongFalsely : Prop := lawS0242CBuiltRow.holds Yba.pinned (OpenSpec.ofChange lawS0242CBuiltWrong)

end Rows
end Go.Proofs.Ybulkdzi
