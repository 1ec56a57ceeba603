/-
  No cell of these rows narrows 'for every input' (looked for: loops, veiled, ifaces, maps, wideKeys, modest, calm, conditions, laid).
  DERIVED. THE GIVEN ROWS OF THIS SEAT. 3 by the template 'for every input the law returns true; each argument reads behind the call as it read before'; 0 by the template 'total and deterministic' (their statements: YbulkdygTotals.lean).
  GIVEN WITH THE SEED: the statements are not yours to turn. If you find one false, say at which input.
  Laid BY PROGRAM, IN A SANDBOX (cutbox-rows.mjs): the forced cells as the released guide's own fill.sh prints them over the translation c43db2ee5bc6f8a8… (all of the seat's roots in one cut). By AI agents, Wed Nov 11 2026. No macro, syntax, notation, axiom, sorry.
-/
import Derived.Test.YbulkdygChecked
import GoSem.Claim
import GoSem.ClaimJoined
import GoSem.ClaimMapViews
import Derived.JoinedTies
import Derived.KernelRfl
namespace Go.Proofs.Ybulkdyg
/- THE CELL 'sum', in the pinned program and in every row, IS THE sha256 OF THE DUMP (.gsa) THAT YbulkdygProg.lean LOADS. Nothing in Lean hashes anything: it is a label: what it is worth is what the hold of that sum in a sandbox is worth. -/
noncomputable def Yba.pinned : Pinned := { name := "ybulkdyg", sum := "c43db2ee5bc6f8a8352747489fd936f3e05c1317b2ce6af7b7940f464e6adf71", checked := Yba.checked }
namespace Rows
def none {H : Type} : Left H := { results := [], args := [] }

/-- 'strawline.LawS0240AModel': WHATEVER THE INPUT: true; the input reads as it did. -/
def lawS0240AModelSpec : ChangeSpec := { name := "lawS0240AModel", fn := fun _ => fun
  | [d1, d2, d3, d4] => { results := [.lit (.bool true)], args := [d1, d2, d3, d4] }
  | _ => none }
def lawS0240AModelRow : OpenClaim := { program := "ybulkdyg", sum := "c43db2ee5bc6f8a8352747489fd936f3e05c1317b2ce6af7b7940f464e6adf71", func := "example.com/strawline/strawline.LawS0240AModel", spec := "lawS0240AModel", apart := false }
def LawS0240AModelSaid : Prop := lawS0240AModelRow.holds Yba.pinned (OpenSpec.ofChange lawS0240AModelSpec)

/-- ITS FALSE NEIGHBOUR: 'it returns false'. Refute it at one input. -/
def lawS0240AModelWrong : ChangeSpec := { name := "lawS0240AModel", fn := fun _ => fun
  | [d1, d2, d3, d4] => { results := [.lit (.bool false)], args := [d1, d2, d3, d4] }
  | _ => none }
def LawS0240AModelWrongFalsely : Prop := lawS0240AModelRow.holds Yba.pinned (OpenSpec.ofChange lawS0240AModelWrong)

/-- 'strawline.LawS0240ATwo': WHATEVER THE INPUT: true; the input reads as it did. -/
def lawS0240ATwoSpec : ChangeSpec := { name := "lawS0240ATwo", fn := fun _ => fun
  | [d1, d2, d3, d4, d5, d6] => { results := [.lit (.bool true)], args := [d1, d2, d3, d4, d5, d6] }
  | _ => none }
def lawS0240ATwoRow : OpenClaim := { program := "ybulkdyg", sum := "c43db2ee5bc6f8a8352747489fd936f3e05c1317b2ce6af7b7940f464e6adf71", func := "example.com/strawline/strawline.LawS0240ATwo", spec := "lawS0240ATwo", apart := false }
def LawS0240ATwoSaid : Prop := lawS0240ATwoRow.holds Yba.pinned (OpenSpec.ofChange lawS0240ATwoSpec)

/-- ITS FALSE NEIGHBOUR: 'it returns false'. Refute it at one input. -/
def lawS0240ATwoWrong : ChangeSpec := { name := "lawS0240ATwo", fn := fun _ => fun
  | [d1, d2, d3, d4, d5, d6] => { results := [.lit (.bool false)], args := [d1, d2, d3, d4, d5, d6] }
  | _ => none }
def LawS0240ATwoWrongFalsely : Prop := lawS0240ATwoRow.holds Yba.pinned (OpenSpec.ofChange lawS0240ATwoWrong)

/-- 'strawline.LawS0240BCount': WHATEVER THE INPUT: true; the input reads as it did. -/
def lawS0240BCountSpec : ChangeSpec := { name := "lawS0240BCount", fn := fun _ => fun
  | [d1, d2, d3, d4, d5] => { results := [.lit (.bool true)], args := [d1, d2, d3, d4, d5] }
  | _ => none }
def lawS0240BCountRow : OpenClaim := { program := "ybulkdyg", sum := "c43db2ee5bc6f8a8352747489fd936f3e05c1317b2ce6af7b7940f464e6adf71", func := "example.com/strawline/strawline.LawS0240BCount", spec := "lawS0240BCount", apart := false }
def LawS0240BCountSaid : Prop := lawS0240BCountRow.holds Yba.pinned (OpenSpec.ofChange lawS0240BCountSpec)

/-- ITS FALSE NEIGHBOUR: 'it returns false'. Refute it at one input. -/
def lawS0240BCountWrong : ChangeSpec := { name := "lawS0240BCount", fn := fun _ => fun
  | [d1, d2, d3, d4, d5] => { results := [.lit (.bool false)], args := [d1, d2, d3, d4, d5] }
  | _ => none }
def LawS0240BCountWrongFalsely : Prop := lawS0240BCountRow.holds Yba.pinned (OpenSpec.ofChange lawS0240BCountWrong)

end Rows
end Go.Proofs.Ybulkdyg
