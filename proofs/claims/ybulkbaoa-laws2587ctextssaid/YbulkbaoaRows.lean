/-
  No cell of these rows narrows 'for every input' (looked for: loops, veiled, ifaces, maps, wideKeys, modest, calm, conditions, laid).
  DERIVED. THE GIVEN ROWS OF THIS SEAT. 1 by the template 'for every input the law returns true; each argument reads behind the call as it read before'; 0 by the template 'total and deterministic' (their statements: YbulkbaoaTotals.lean).
  GIVEN WITH THE SEED: the statements are not yours to turn. If you find one false, say at which input.
  Laid BY PROGRAM, IN A SANDBOX (cutbox-rows.mjs): the forced cells as the released guide's own fill.sh prints them over the translation 6a611b97b46dbeb9… (all of the seat's roots in one cut). By AI agents, Wed Nov 11 2026. No macro, syntax, notation, axiom, sorry.
-/
import Derived.Test.YbulkbaoaChecked
import GoSem.Claim
import GoSem.ClaimJoined
import GoSem.ClaimMapViews
import Derived.JoinedTies
import Derived.KernelRfl
namespace Go.Proofs.Ybulkbaoa
/- THE CELL 'sum', in the pinned program and in every row, IS THE sha256 OF THE DUMP (.gsa) THAT YbulkbaoaProg.lean LOADS. Nothing in Lean hashes anything: it is a label: what it is worth is what the hold of that sum in a sandbox is worth. -/
noncomputable def Yba.pinned : Pinned := { name := "ybulkbaoa", sum := "6a611b97b46dbeb99dbdca0023964255310c33988a9e4664a6876a593c391efe", checked := Yba.checked }
namespace Rows
def none {H : Type} : Left H := { results := [], args := [] }

/-- 'plan.LawS2587CTexts': WHATEVER THE INPUT: true; the input reads as it did. -/
def lawS2587CTextsSpec : ChangeSpec := { name := "lawS2587CTexts", fn := fun _ => fun
  | [d1, d2, d3, d4] => { results := [.lit (.bool true)], args := [d1, d2, d3, d4] }
  | _ => none }
def lawS2587CTextsRow : OpenClaim := { program := "ybulkbaoa", sum := "6a611b97b46dbeb99dbdca0023964255310c33988a9e4664a6876a593c391efe", func := "example.com/driftline/driftline/internal/plan.LawS2587CTexts", spec := "lawS2587CTexts", apart := false }
def LawS2587CTextsSaid : Prop := lawS2587CTextsRow.holds Yba.pinned (OpenSpec.ofChange lawS2587CTextsSpec)

/-- ITS FALSE NEIGHBOUR: 'it returns false'. Refute it at one input. -/
def lawS2587CTextsWrong : ChangeSpec := { name := "lawS2587CTexts", fn := fun _ => fun
  | [d1, d2, d3, d4] => { results := [.lit (.bool false)], args := [d1, d2, d3, d4] }
  | _ => none }
def LawS2587CTextsWrongFalsely : Prop := lawS2587CTextsRow.holds Yba.pinned (OpenSpec.ofChange lawS2587CTextsWrong)

end Rows
end Go.Proofs.Ybulkbaoa
