/-
  No cell of these rows narrows 'for every input' (looked for: loops, veiled, ifaces, maps, wideKeys, modest, calm, conditions, laid).
  DERIVED. THE GIVEN ROWS OF THIS SEAT. 2 by the template 'for every input the law returns true; each argument reads behind the call as it read before'; 0 by the template 'total and deterministic' (their statements: YbulkbargTotals.lean).
  GIVEN WITH THE SEED: the statements are not yours to turn. If you find one false, say at which input.
  Laid BY PROGRAM, IN A SANDBOX (cutbox-rows.mjs): the forced cells as the released guide's own fill.sh prints them over the translation 0013a0e4fd04eb91… (all of the seat's roots in one cut). By AI agents, Wed Nov 11 2026. No macro, syntax, notation, axiom, sorry.
-/
import Derived.Test.YbulkbargChecked
import GoSem.Claim
import GoSem.ClaimJoined
import GoSem.ClaimMapViews
import Derived.JoinedTies
import Derived.KernelRfl
namespace Go.Proofs.Ybulkbarg
/- THE CELL 'sum', in the pinned program and in every row, IS THE sha256 OF THE DUMP (.gsa) THAT YbulkbargProg.lean LOADS. Nothing in Lean hashes anything: it is a label: what it is worth is what the hold of that sum in a sandbox is worth. -/
noncomputable def Yba.pinned : Pinned := { name := "ybulkbarg", sum := "0013a0e4fd04eb91f58316707ea7b686a89f45009c59221465da7c5b98c9bb2f", checked := Yba.checked }
namespace Rows
def none {H : Type} : Left H := { results := [], args := [] }

/-- 'agent.LawS2593BExact': WHATEVER THE INPUT: true; the input reads as it did. -/
def lawS2593BExactSpec : ChangeSpec := { name := "lawS2593BExact", fn := fun _ => fun
  | [d1, d2, d3, d4, d5, d6, d7] => { results := [.lit (.bool true)], args := [d1, d2, d3, d4, d5, d6, d7] }
  | _ => none }
def lawS2593BExactRow : OpenClaim := { program := "ybulkbarg", sum := "0013a0e4fd04eb91f58316707ea7b686a89f45009c59221465da7c5b98c9bb2f", func := "example.com/knotwatch/knotwatch/agent.LawS2593BExact", spec := "lawS2593BExact", apart := false }
def LawS2593BExactSaid : Prop := lawS2593BExactRow.holds Yba.pinned (OpenSpec.ofChange lawS2593BExactSpec)

/-- ITS FALSE NEIGHBOUR: 'it returns false'. Refute it at one input. -/
def lawS2593BExactWrong : ChangeSpec := { name := "lawS2593BExact", fn := fun _ => fun
  | [d1, d2, d3, d4, d5, d6, d7] => { results := [.lit (.bool false)], args := [d1, d2, d3, d4, d5, d6, d7] }
  | _ => none }
def LawS2593BExactWrongFalsely : Prop := lawS2593BExactRow.holds Yba.pinned (OpenSpec.ofChange lawS2593BExactWrong)

/-- 'agent.LawS2593BMonotone': WHATEVER THE INPUT: true; the input reads as it did. -/
def lawS2593BMonotoneSpec : ChangeSpec := { name := "lawS2593BMonotone", fn := fun _ => fun
  | [d1, d2, d3, d4, d5, d6, d7, d8] => { results := [.lit (.bool true)], args := [d1, d2, d3, d4, d5, d6, d7, d8] }
  | _ => none }
def lawS2593BMonotoneRow : OpenClaim := { program := "ybulkbarg", sum := "0013a0e4fd04eb91f58316707ea7b686a89f45009c59221465da7c5b98c9bb2f", func := "example.com/knotwatch/knotwatch/agent.LawS2593BMonotone", spec := "lawS2593BMonotone", apart := false }
def LawS2593BMonotoneSaid : Prop := lawS2593BMonotoneRow.holds Yba.pinned (OpenSpec.ofChange lawS2593BMonotoneSpec)

/-- ITS FALSE NEIGHBOUR: 'it returns false'. Refute it at one input. -/
def lawS2593BMonotoneWrong : ChangeSpec := { name := "lawS2593BMonotone", fn := fun _ => fun
  | [d1, d2, d3, d4, d5, d6, d7, d8] => { results := [.lit (.bool false)], args := [d1, d2, d3, d4, d5, d6, d7, d8] }
  | _ => none }
def LawS2593BMonotoneWrongFalsely : Prop := lawS2593BMonotoneRow.holds Yba.pinned (OpenSpec.ofChange lawS2593BMonotoneWrong)

end Rows
end Go.Proofs.Ybulkbarg
