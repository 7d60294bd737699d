/-
  No cell of these rows narrows 'for every input' (looked for: loops, veiled, ifaces, maps, wideKeys, modest, calm, conditions, laid).
  DERIVED. THE GIVEN ROWS OF THIS SEAT. 5 by the template 'for every input the law returns true; each argument reads behind the call as it read before'; 0 by the template 'total and deterministic' (their statements: YbulkipkTotals.lean).
  GIVEN WITH THE SEED: the statements are not yours to turn. If you find one false, say at which input.
  Laid BY PROGRAM, IN A SANDBOX (cutbox-rows.mjs): the forced cells as the released guide's own fill.sh prints them over the translation 2ef2e265c136f8b0… (all of the seat's roots in one cut). By AI agents, Wed Nov 11 2026. No macro, syntax, notation, axiom, sorry.
-/
import Derived.Test.YbulkipkChecked
import GoSem.Claim
import GoSem.ClaimJoined
import GoSem.ClaimMapViews
import Derived.JoinedTies
import Derived.KernelRfl
namespace Go.Proofs.Ybulkipk
/- THE CELL 'sum', in the pinned program and in every row, IS THE sha256 OF THE DUMP (.gsa) THAT YbulkipkProg.lean LOADS. Nothing in Lean hashes anything: it is a label: what it is worth is what the hold of that sum in a sandbox is worth. -/
noncomputable def Yba.pinned : Pinned := { name := "ybulkipk", sum := "2ef2e265c136f8b0ed87b5bbf10cf24e864c53d5ff69131c12f551732885b7d1", checked := Yba.checked }
namespace Rows
def none {H : Type} : Left H := { results := [], args := [] }

/-- 'precedex.LawS0465AModel': WHATEVER THE INPUT: true; the input reads as it did. -/
def lawS0465AModelSpec : ChangeSpec := { name := "lawS0465AModel", fn := fun _ => fun
  | [d] => { results := [.lit (.bool true)], args := [d] }
  | _ => none }
def lawS0465AModelRow : OpenClaim := { program := "ybulkipk", sum := "2ef2e265c136f8b0ed87b5bbf10cf24e864c53d5ff69131c12f551732885b7d1", func := "example.com/precedex/precedex.LawS0465AModel", spec := "lawS0465AModel", unfollowed := true, recurses := true, apart := false }
def LawS0465AModelSaid : Prop := lawS0465AModelRow.holds Yba.pinned (OpenSpec.ofChange lawS0465AModelSpec)

/-- ITS FALSE NEIGHBOUR: 'it returns false'. Refute it at one input. -/
def lawS0465AModelWrong : ChangeSpec := { name := "lawS0465AModel", fn := fun _ => fun
  | [d] => { results := [.lit (.bool false)], args := [d] }
  | _ => none }
def LawS0465AModelWrongFalsely : Prop := lawS0465AModelRow.holds Yba.pinned (OpenSpec.ofChange lawS0465AModelWrong)

/-- 'precedex.LawS0465AStop': WHATEVER THE INPUT: true; the input reads as it did. -/
def lawS0465AStopSpec : ChangeSpec := { name := "lawS0465AStop", fn := fun _ => fun
  | [d1, d2] => { results := [.lit (.bool true)], args := [d1, d2] }
  | _ => none }
def lawS0465AStopRow : OpenClaim := { program := "ybulkipk", sum := "2ef2e265c136f8b0ed87b5bbf10cf24e864c53d5ff69131c12f551732885b7d1", func := "example.com/precedex/precedex.LawS0465AStop", spec := "lawS0465AStop", unfollowed := true, recurses := true, apart := false }
def LawS0465AStopSaid : Prop := lawS0465AStopRow.holds Yba.pinned (OpenSpec.ofChange lawS0465AStopSpec)

/-- ITS FALSE NEIGHBOUR: 'it returns false'. Refute it at one input. -/
def lawS0465AStopWrong : ChangeSpec := { name := "lawS0465AStop", fn := fun _ => fun
  | [d1, d2] => { results := [.lit (.bool false)], args := [d1, d2] }
  | _ => none }
def LawS0465AStopWrongFalsely : Prop := lawS0465AStopRow.holds Yba.pinned (OpenSpec.ofChange lawS0465AStopWrong)

/-- 'precedex.LawS0465BExact': WHATEVER THE INPUT: true; the input reads as it did. -/
def lawS0465BExactSpec : ChangeSpec := { name := "lawS0465BExact", fn := fun _ => fun
  | [d1, d2, d3] => { results := [.lit (.bool true)], args := [d1, d2, d3] }
  | _ => none }
def lawS0465BExactRow : OpenClaim := { program := "ybulkipk", sum := "2ef2e265c136f8b0ed87b5bbf10cf24e864c53d5ff69131c12f551732885b7d1", func := "example.com/precedex/precedex.LawS0465BExact", spec := "lawS0465BExact", apart := false }
def LawS0465BExactSaid : Prop := lawS0465BExactRow.holds Yba.pinned (OpenSpec.ofChange lawS0465BExactSpec)

/-- ITS FALSE NEIGHBOUR: 'it returns false'. Refute it at one input. -/
def lawS0465BExactWrong : ChangeSpec := { name := "lawS0465BExact", fn := fun _ => fun
  | [d1, d2, d3] => { results := [.lit (.bool false)], args := [d1, d2, d3] }
  | _ => none }
def LawS0465BExactWrongFalsely : Prop := lawS0465BExactRow.holds Yba.pinned (OpenSpec.ofChange lawS0465BExactWrong)

/-- 'precedex.LawS0465BOrder': WHATEVER THE INPUT: true; the input reads as it did. -/
def lawS0465BOrderSpec : ChangeSpec := { name := "lawS0465BOrder", fn := fun _ => fun
  | [d1, d2, d3] => { results := [.lit (.bool true)], args := [d1, d2, d3] }
  | _ => none }
def lawS0465BOrderRow : OpenClaim := { program := "ybulkipk", sum := "2ef2e265c136f8b0ed87b5bbf10cf24e864c53d5ff69131c12f551732885b7d1", func := "example.com/precedex/precedex.LawS0465BOrder", spec := "lawS0465BOrder", apart := false }
def LawS0465BOrderSaid : Prop := lawS0465BOrderRow.holds Yba.pinned (OpenSpec.ofChange lawS0465BOrderSpec)

/-- ITS FALSE NEIGHBOUR: 'it returns false'. Refute it at one input. -/
def lawS0465BOrderWrong : ChangeSpec := { name := "lawS0465BOrder", fn := fun _ => fun
  | [d1, d2, d3] => { results := [.lit (.bool false)], args := [d1, d2, d3] }
  | _ => none }
def LawS0465BOrderWrongFalsely : Prop := lawS0465BOrderRow.holds Yba.pinned (OpenSpec.ofChange lawS0465BOrderWrong)

/-- 'precedex.LawS0465CShape': WHATEVER THE INPUT: true; the input reads as it did. -/
def lawS0465CShapeSpec : ChangeSpec := { name := "lawS0465CShape", fn := fun _ => fun
  | [d1, d2, d3] => { results := [.lit (.bool true)], args := [d1, d2, d3] }
  | _ => none }
def lawS0465CShapeRow : OpenClaim := { program := "ybulkipk", sum := "2ef2e265c136f8b0ed87b5bbf10cf24e864c53d5ff69131c12f551732885b7d1", func := "example.com/precedex/precedex.LawS0465CShape", spec := "lawS0465CShape", apart := false }
def LawS0465CShapeSaid : Prop := lawS0465CShapeRow.holds Yba.pinned (OpenSpec.ofChange lawS0465CShapeSpec)

/-- ITS FALSE NEIGHBOUR: 'it returns false'. Refute it at one input. -/
def lawS0465CShapeWrong : ChangeSpec := { name := "lawS0465CShape", fn := fun _ => fun
  | [d1, d2, d3] => { results := [.lit (.bool false)], args := [d1, d2, d3] }
  | _ => none }
def LawS0465CShapeWrongFalsely : Prop := lawS0465CShapeRow.holds Yba.pinned (OpenSpec.ofChange lawS0465CShapeWrong)

end Rows
end Go.Proofs.Ybulkipk
