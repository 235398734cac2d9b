/-
  No cell of these rows narrows 'for every input' (looked for: loops, veiled, ifaces, maps, wideKeys, modest, calm, conditions, laid).
  DERIVED. THE GIVEN ROWS OF THIS SEAT. 2 by the template 'for every input the law returns true; each argument reads behind the call as it read before'; 0 by the template 'total and deterministic' (their statements: YbulkbapcTotals.lean).
  GIVEN WITH THE SEED: the statements are not yours to turn. If you find one false, say at which input.
  Laid BY PROGRAM, IN A SANDBOX (cutbox-rows.mjs): the forced cells as the released guide's own fill.sh prints them over the translation 8e7b276471c27d34… (all of the seat's roots in one cut). By AI agents, Wed Nov 11 2026. No macro, syntax, notation, axiom, sorry.
-/
import Derived.Test.YbulkbapcChecked
import GoSem.Claim
import GoSem.ClaimJoined
import GoSem.ClaimMapViews
import Derived.JoinedTies
import Derived.KernelRfl
namespace Go.Proofs.Ybulkbapc
/- THE CELL 'sum', in the pinned program and in every row, IS THE sha256 OF THE DUMP (.gsa) THAT YbulkbapcProg.lean LOADS. Nothing in Lean hashes anything: it is a label: what it is worth is what the hold of that sum in a sandbox is worth. -/
noncomputable def Yba.pinned : Pinned := { name := "ybulkbapc", sum := "8e7b276471c27d34844e88fc75a42a887891efabd09d2b1cab07d59a6d5ab4a4", checked := Yba.checked }
namespace Rows
def none {H : Type} : Left H := { results := [], args := [] }

/-- 'midpoint.LawS2589AStep': WHATEVER THE INPUT: true; the input reads as it did. -/
def lawS2589AStepSpec : ChangeSpec := { name := "lawS2589AStep", fn := fun _ => fun
  | [d1, d2, d3, d4, d5, d6, d7, d8, d9, d10] => { results := [.lit (.bool true)], args := [d1, d2, d3, d4, d5, d6, d7, d8, d9, d10] }
  | _ => none }
def lawS2589AStepRow : OpenClaim := { program := "ybulkbapc", sum := "8e7b276471c27d34844e88fc75a42a887891efabd09d2b1cab07d59a6d5ab4a4", func := "example.com/isochron/isochron/internal/midpoint.LawS2589AStep", spec := "lawS2589AStep", apart := false }
def LawS2589AStepSaid : Prop := lawS2589AStepRow.holds Yba.pinned (OpenSpec.ofChange lawS2589AStepSpec)

/-- ITS FALSE NEIGHBOUR: 'it returns false'. Refute it at one input. -/
def lawS2589AStepWrong : ChangeSpec := { name := "lawS2589AStep", fn := fun _ => fun
  | [d1, d2, d3, d4, d5, d6, d7, d8, d9, d10] => { results := [.lit (.bool false)], args := [d1, d2, d3, d4, d5, d6, d7, d8, d9, d10] }
  | _ => none }
def LawS2589AStepWrongFalsely : Prop := lawS2589AStepRow.holds Yba.pinned (OpenSpec.ofChange lawS2589AStepWrong)

/-- 'served.LawS2589CTable': WHATEVER THE INPUT: true; the input reads as it did. -/
def lawS2589CTableSpec : ChangeSpec := { name := "lawS2589CTable", fn := fun _ => fun
  | [d1, d2, d3, d4, d5, d6, d7] => { results := [.lit (.bool true)], args := [d1, d2, d3, d4, d5, d6, d7] }
  | _ => none }
def lawS2589CTableRow : OpenClaim := { program := "ybulkbapc", sum := "8e7b276471c27d34844e88fc75a42a887891efabd09d2b1cab07d59a6d5ab4a4", func := "example.com/isochron/isochron/internal/served.LawS2589CTable", spec := "lawS2589CTable", inPlace := ["math.Float64bits"], apart := false }
def LawS2589CTableSaid : Prop := lawS2589CTableRow.holds Yba.pinned (OpenSpec.ofChange lawS2589CTableSpec)

/-- ITS FALSE NEIGHBOUR: 'it returns false'. Refute it at one input. -/
def lawS2589CTableWrong : ChangeSpec := { name := "lawS2589CTable", fn := fun _ => fun
  | [d1, d2, d3, d4, d5, d6, d7] => { results := [.lit (.bool false)], args := [d1, d2, d3, d4, d5, d6, d7] }
  | _ => none }
def LawS2589CTableWrongFalsely : Prop := lawS2589CTableRow.holds Yba.pinned (OpenSpec.ofChange lawS2589CTableWrong)

end Rows
end Go.Proofs.Ybulkbapc
