/-
  No cell of these rows narrows 'for every input' (looked for: loops, veiled, ifaces, maps, wideKeys, modest, calm, conditions, laid).
  DERIVED. THE GIVEN ROWS OF THIS SEAT. 2 by the template 'for every input the law returns true; each argument reads behind the call as it read before'; 0 by the template 'total and deterministic' (their statements: YbulkioiTotals.lean).
  GIVEN WITH THE SEED: the statements are not yours to turn. If you find one false, say at which input.
  Laid BY PROGRAM, IN A SANDBOX (cutbox-rows.mjs): the forced cells as the released guide's own fill.sh prints them over the translation ecd60cd92296e471… (all of the seat's roots in one cut). By AI agents, Wed Nov 11 2026. No macro, syntax, notation, axiom, sorry.
-/
import Derived.Test.YbulkioiChecked
import GoSem.Claim
import GoSem.ClaimJoined
import GoSem.ClaimMapViews
import Derived.JoinedTies
import Derived.KernelRfl
namespace Go.Proofs.Ybulkioi
/- THE CELL 'sum', in the pinned program and in every row, IS THE sha256 OF THE DUMP (.gsa) THAT YbulkioiProg.lean LOADS. Nothing in Lean hashes anything: it is a label: what it is worth is what the hold of that sum in a sandbox is worth. -/
noncomputable def Yba.pinned : Pinned := { name := "ybulkioi", sum := "ecd60cd92296e471f26c08eb5e8c95ae54cb93ef03c800bab193de0f86cf9f76", checked := Yba.checked }
namespace Rows
def none {H : Type} : Left H := { results := [], args := [] }

/-- 'countersign.LawS0463AWindow': WHATEVER THE INPUT: true; the input reads as it did. -/
def lawS0463AWindowSpec : ChangeSpec := { name := "lawS0463AWindow", fn := fun _ => fun
  | [d1, d2, d3, d4, d5, d6, d7, d8, d9] => { results := [.lit (.bool true)], args := [d1, d2, d3, d4, d5, d6, d7, d8, d9] }
  | _ => none }
def lawS0463AWindowRow : OpenClaim := { program := "ybulkioi", sum := "ecd60cd92296e471f26c08eb5e8c95ae54cb93ef03c800bab193de0f86cf9f76", func := "example.com/countersign/countersign.LawS0463AWindow", spec := "lawS0463AWindow", apart := false }
def LawS0463AWindowSaid : Prop := lawS0463AWindowRow.holds Yba.pinned (OpenSpec.ofChange lawS0463AWindowSpec)

/-- ITS FALSE NEIGHBOUR: 'it returns false'. Refute it at one input. -/
def lawS0463AWindowWrong : ChangeSpec := { name := "lawS0463AWindow", fn := fun _ => fun
  | [d1, d2, d3, d4, d5, d6, d7, d8, d9] => { results := [.lit (.bool false)], args := [d1, d2, d3, d4, d5, d6, d7, d8, d9] }
  | _ => none }
def LawS0463AWindowWrongFalsely : Prop := lawS0463AWindowRow.holds Yba.pinned (OpenSpec.ofChange lawS0463AWindowWrong)

/-- 'countersign.LawS0463ATwice': WHATEVER THE INPUT: true; the input reads as it did. -/
def lawS0463ATwiceSpec : ChangeSpec := { name := "lawS0463ATwice", fn := fun _ => fun
  | [d1, d2, d3] => { results := [.lit (.bool true)], args := [d1, d2, d3] }
  | _ => none }
def lawS0463ATwiceRow : OpenClaim := { program := "ybulkioi", sum := "ecd60cd92296e471f26c08eb5e8c95ae54cb93ef03c800bab193de0f86cf9f76", func := "example.com/countersign/countersign.LawS0463ATwice", spec := "lawS0463ATwice", apart := false }
def LawS0463ATwiceSaid : Prop := lawS0463ATwiceRow.holds Yba.pinned (OpenSpec.ofChange lawS0463ATwiceSpec)

/-- ITS FALSE NEIGHBOUR: 'it returns false'. Refute it at one input. -/
def lawS0463ATwiceWrong : ChangeSpec := { name := "lawS0463ATwice", fn := fun _ => fun
  | [d1, d2, d3] => { results := [.lit (.bool false)], args := [d1, d2, d3] }
  | _ => none }
def LawS0463ATwiceWrongFalsely : Prop := lawS0463ATwiceRow.holds Yba.pinned (OpenSpec.ofChange lawS0463ATwiceWrong)

end Rows
end Go.Proofs.Ybulkioi
