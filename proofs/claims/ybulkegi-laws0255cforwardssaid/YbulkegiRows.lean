/-
  No cell of these rows narrows 'for every input' (looked for: loops, veiled, ifaces, maps, wideKeys, modest, calm, conditions, laid).
  DERIVED. THE GIVEN ROWS OF THIS SEAT. 3 by the template 'for every input the law returns true; each argument reads behind the call as it read before'; 0 by the template 'total and deterministic' (their statements: YbulkegiTotals.lean).
  GIVEN WITH THE SEED: the statements are not yours to turn. If you find one false, say at which input.
  Laid BY PROGRAM, IN A SANDBOX (cutbox-rows.mjs): the forced cells as the released guide's own fill.sh prints them over the translation 6852fc284284b578… (all of the seat's roots in one cut). By AI agents, Wed Nov 11 2026. No macro, syntax, notation, axiom, sorry.
-/
import Derived.Test.YbulkegiChecked
import GoSem.Claim
import GoSem.ClaimJoined
import GoSem.ClaimMapViews
import Derived.JoinedTies
import Derived.KernelRfl
namespace Go.Proofs.Ybulkegi
/- THE CELL 'sum', in the pinned program and in every row, IS THE sha256 OF THE DUMP (.gsa) THAT YbulkegiProg.lean LOADS. Nothing in Lean hashes anything: it is a label: what it is worth is what the hold of that sum in a sandbox is worth. -/
noncomputable def Yba.pinned : Pinned := { name := "ybulkegi", sum := "6852fc284284b57850f26ef92b69a7ae1193934289f61108fd6cec7421fb9f59", checked := Yba.checked }
namespace Rows
def none {H : Type} : Left H := { results := [], args := [] }

/-- 'lte.LawS0255BShape': WHATEVER THE INPUT: true; the input reads as it did. -/
def lawS0255BShapeSpec : ChangeSpec := { name := "lawS0255BShape", fn := fun _ => fun
  | [d1, d2] => { results := [.lit (.bool true)], args := [d1, d2] }
  | _ => none }
def lawS0255BShapeRow : OpenClaim := { program := "ybulkegi", sum := "6852fc284284b57850f26ef92b69a7ae1193934289f61108fd6cec7421fb9f59", func := "example.com/akabench/akabench/internal/lte.LawS0255BShape", spec := "lawS0255BShape", apart := false }
def LawS0255BShapeSaid : Prop := lawS0255BShapeRow.holds Yba.pinned (OpenSpec.ofChange lawS0255BShapeSpec)

/-- ITS FALSE NEIGHBOUR: 'it returns false'. Refute it at one input. -/
def lawS0255BShapeWrong : ChangeSpec := { name := "lawS0255BShape", fn := fun _ => fun
  | [d1, d2] => { results := [.lit (.bool false)], args := [d1, d2] }
  | _ => none }
def LawS0255BShapeWrongFalsely : Prop := lawS0255BShapeRow.holds Yba.pinned (OpenSpec.ofChange lawS0255BShapeWrong)

/-- 'lte.LawS0255BSend': WHATEVER THE INPUT: true; the input reads as it did. -/
def lawS0255BSendSpec : ChangeSpec := { name := "lawS0255BSend", fn := fun _ => fun
  | [d1, d2, d3] => { results := [.lit (.bool true)], args := [d1, d2, d3] }
  | _ => none }
def lawS0255BSendRow : OpenClaim := { program := "ybulkegi", sum := "6852fc284284b57850f26ef92b69a7ae1193934289f61108fd6cec7421fb9f59", func := "example.com/akabench/akabench/internal/lte.LawS0255BSend", spec := "lawS0255BSend", unfollowed := true, recurses := true, apart := false }
def LawS0255BSendSaid : Prop := lawS0255BSendRow.holds Yba.pinned (OpenSpec.ofChange lawS0255BSendSpec)

/-- ITS FALSE NEIGHBOUR: 'it returns false'. Refute it at one input. -/
def lawS0255BSendWrong : ChangeSpec := { name := "lawS0255BSend", fn := fun _ => fun
  | [d1, d2, d3] => { results := [.lit (.bool false)], args := [d1, d2, d3] }
  | _ => none }
def LawS0255BSendWrongFalsely : Prop := lawS0255BSendRow.holds Yba.pinned (OpenSpec.ofChange lawS0255BSendWrong)

/-- 'lte.LawS0255CForwards': WHATEVER THE INPUT: true; the input reads as it did. -/
def lawS0255CForwardsSpec : ChangeSpec := { name := "lawS0255CForwards", fn := fun _ => fun
  | [d1, d2, d3, d4, d5] => { results := [.lit (.bool true)], args := [d1, d2, d3, d4, d5] }
  | _ => none }
def lawS0255CForwardsRow : OpenClaim := { program := "ybulkegi", sum := "6852fc284284b57850f26ef92b69a7ae1193934289f61108fd6cec7421fb9f59", func := "example.com/akabench/akabench/internal/lte.LawS0255CForwards", spec := "lawS0255CForwards", unfollowed := true, recurses := true, apart := false }
def LawS0255CForwardsSaid : Prop := lawS0255CForwardsRow.holds Yba.pinned (OpenSpec.ofChange lawS0255CForwardsSpec)

/-- ITS FALSE NEIGHBOUR: 'it returns false'. Refute it at one input. -/
def lawS0255CForwardsWrong : ChangeSpec := { name := "lawS0255CForwards", fn := fun _ => fun
  | [d1, d2, d3, d4, d5] => { results := [.lit (.bool false)], args := [d1, d2, d3, d4, d5] }
  | _ => none }
def LawS0255CForwardsWrongFalsely : Prop := lawS0255CForwardsRow.holds Yba.pinned (OpenSpec.ofChange lawS0255CForwardsWrong)

end Rows
end Go.Proofs.Ybulkegi
