/-
  No cell of these rows narrows 'for every input' (looked for: loops, veiled, ifaces, maps, wideKeys, modest, calm, conditions, laid).
  DERIVED. THE GIVEN ROWS OF THIS SEAT. 2 by the template 'for every input the law returns true; each argument reads behind the call as it read before'; 0 by the template 'total and deterministic' (their statements: YbulkipyTotals.lean).
  GIVEN WITH THE SEED: the statements are not yours to turn. If you find one false, say at which input.
  Laid BY PROGRAM, IN A SANDBOX (cutbox-rows.mjs): the forced cells as the released guide's own fill.sh prints them over the translation 97d3e8d495771771… (all of the seat's roots in one cut). By AI agents, Wed Nov 11 2026. No macro, syntax, notation, axiom, sorry.
-/
import Derived.Test.YbulkipyChecked
import GoSem.Claim
import GoSem.ClaimJoined
import GoSem.ClaimMapViews
import Derived.JoinedTies
import Derived.KernelRfl
namespace Go.Proofs.Ybulkipy
/- THE CELL 'sum', in the pinned program and in every row, IS THE sha256 OF THE DUMP (.gsa) THAT YbulkipyProg.lean LOADS. Nothing in Lean hashes anything: it is a label: what it is worth is what the hold of that sum in a sandbox is worth. -/
noncomputable def Yba.pinned : Pinned := { name := "ybulkipy", sum := "97d3e8d4957717714d3e8b0d57fc2c1f00d9fe471077b257001fc35f99f2fa8f", checked := Yba.checked }
namespace Rows
def none {H : Type} : Left H := { results := [], args := [] }

/-- 'table.LawS0466AModel': WHATEVER THE INPUT: true; the input reads as it did. -/
def lawS0466AModelSpec : ChangeSpec := { name := "lawS0466AModel", fn := fun _ => fun
  | [d1, d2] => { results := [.lit (.bool true)], args := [d1, d2] }
  | _ => none }
def lawS0466AModelRow : OpenClaim := { program := "ybulkipy", sum := "97d3e8d4957717714d3e8b0d57fc2c1f00d9fe471077b257001fc35f99f2fa8f", func := "example.com/hostbook/hostbook/table.LawS0466AModel", spec := "lawS0466AModel", apart := false }
def LawS0466AModelSaid : Prop := lawS0466AModelRow.holds Yba.pinned (OpenSpec.ofChange lawS0466AModelSpec)

/-- ITS FALSE NEIGHBOUR: 'it returns false'. Refute it at one input. -/
def lawS0466AModelWrong : ChangeSpec := { name := "lawS0466AModel", fn := fun _ => fun
  | [d1, d2] => { results := [.lit (.bool false)], args := [d1, d2] }
  | _ => none }
def LawS0466AModelWrongFalsely : Prop := lawS0466AModelRow.holds Yba.pinned (OpenSpec.ofChange lawS0466AModelWrong)

/-- 'table.LawS0466AFlip': WHATEVER THE INPUT: true; the input reads as it did. -/
def lawS0466AFlipSpec : ChangeSpec := { name := "lawS0466AFlip", fn := fun _ => fun
  | [d1, d2, d3] => { results := [.lit (.bool true)], args := [d1, d2, d3] }
  | _ => none }
def lawS0466AFlipRow : OpenClaim := { program := "ybulkipy", sum := "97d3e8d4957717714d3e8b0d57fc2c1f00d9fe471077b257001fc35f99f2fa8f", func := "example.com/hostbook/hostbook/table.LawS0466AFlip", spec := "lawS0466AFlip", apart := false }
def LawS0466AFlipSaid : Prop := lawS0466AFlipRow.holds Yba.pinned (OpenSpec.ofChange lawS0466AFlipSpec)

/-- ITS FALSE NEIGHBOUR: 'it returns false'. Refute it at one input. -/
def lawS0466AFlipWrong : ChangeSpec := { name := "lawS0466AFlip", fn := fun _ => fun
  | [d1, d2, d3] => { results := [.lit (.bool false)], args := [d1, d2, d3] }
  | _ => none }
def LawS0466AFlipWrongFalsely : Prop := lawS0466AFlipRow.holds Yba.pinned (OpenSpec.ofChange lawS0466AFlipWrong)

end Rows
end Go.Proofs.Ybulkipy
