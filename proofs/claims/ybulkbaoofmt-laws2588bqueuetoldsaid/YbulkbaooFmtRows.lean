/-
  No cell of these rows narrows 'for every input' (looked for: loops, veiled, ifaces, maps, wideKeys, modest, calm, conditions, laid).
  DERIVED. THE GIVEN ROWS OF THIS SEAT. 2 by the template 'for every input the law returns true; each argument reads behind the call as it read before'; 0 by the template 'total and deterministic' (their statements: YbulkbaooFmtTotals.lean).
  GIVEN WITH THE SEED: the statements are not yours to turn. If you find one false, say at which input.
  Laid BY PROGRAM, IN A SANDBOX (cutbox-rows.mjs): the forced cells as the released guide's own fill.sh prints them over the translation c6624c63eafba390… (all of the seat's roots in one cut). By AI agents, Wed Nov 11 2026. No macro, syntax, notation, axiom, sorry.
-/
import Derived.Test.YbulkbaooFmtChecked
import GoSem.Claim
import GoSem.ClaimJoined
import GoSem.ClaimMapViews
import Derived.JoinedTies
import Derived.KernelRfl
namespace Go.Proofs.YbulkbaooFmt
/- THE CELL 'sum', in the pinned program and in every row, IS THE sha256 OF THE DUMP (.gsa) THAT YbulkbaooFmtProg.lean LOADS. Nothing in Lean hashes anything: it is a label: what it is worth is what the hold of that sum in a sandbox is worth. -/
noncomputable def Ybaf.pinned : Pinned := { name := "ybulkbaoofmt", sum := "c6624c63eafba390afb781ccfa2949fdf1ea26b5e3e806b36df043ed9410fc1d", checked := Ybaf.checked }
namespace Rows
def none {H : Type} : Left H := { results := [], args := [] }

/-- 'client.LawS2588BQueue': WHATEVER THE INPUT: true; the input reads as it did. -/
def lawS2588BQueueSpec : ChangeSpec := { name := "lawS2588BQueue", fn := fun _ => fun
  | [d1, d2, d3, d4, d5, d6] => { results := [.lit (.bool true)], args := [d1, d2, d3, d4, d5, d6] }
  | _ => none }
def lawS2588BQueueRow : OpenClaim := { program := "ybulkbaoofmt", sum := "c6624c63eafba390afb781ccfa2949fdf1ea26b5e3e806b36df043ed9410fc1d", func := "example.com/shrike/shrike/internal/client.LawS2588BQueue", spec := "lawS2588BQueue", stops := ["fmt.errorf"], inPlace := ["fmt.errorf"], named := ["encoding/binary.BigEndian"], apart := false }
/-- NO THEOREM (fmt's text is open here; it may be false): for the released tool's asking of the row's closed facts alone. THE STATEMENT IS 'LawS2588BQueueToldSaid' (YbulkbaooFmtCards.lean). -/
def LawS2588BQueueFormAsk : Prop := lawS2588BQueueRow.holds Ybaf.pinned (OpenSpec.ofChange lawS2588BQueueSpec)

/-- ITS FALSE NEIGHBOUR: 'it returns false'. Refute it at one input. -/
def lawS2588BQueueWrong : ChangeSpec := { name := "lawS2588BQueue", fn := fun _ => fun
  | [d1, d2, d3, d4, d5, d6] => { results := [.lit (.bool false)], args := [d1, d2, d3, d4, d5, d6] }
  | _ => none }
def LawS2588BQueueWrongFormAsk : Prop := lawS2588BQueueRow.holds Ybaf.pinned (OpenSpec.ofChange lawS2588BQueueWrong)

/-- 'client.LawS2588BBroken': WHATEVER THE INPUT: true; the input reads as it did. -/
def lawS2588BBrokenSpec : ChangeSpec := { name := "lawS2588BBroken", fn := fun _ => fun
  | [d1, d2, d3, d4] => { results := [.lit (.bool true)], args := [d1, d2, d3, d4] }
  | _ => none }
def lawS2588BBrokenRow : OpenClaim := { program := "ybulkbaoofmt", sum := "c6624c63eafba390afb781ccfa2949fdf1ea26b5e3e806b36df043ed9410fc1d", func := "example.com/shrike/shrike/internal/client.LawS2588BBroken", spec := "lawS2588BBroken", stops := ["fmt.errorf"], inPlace := ["fmt.errorf"], named := ["encoding/binary.BigEndian"], apart := false }
/-- NO THEOREM (fmt's text is open here; it may be false): for the released tool's asking of the row's closed facts alone. THE STATEMENT IS 'LawS2588BBrokenToldSaid' (YbulkbaooFmtCards.lean). -/
def LawS2588BBrokenFormAsk : Prop := lawS2588BBrokenRow.holds Ybaf.pinned (OpenSpec.ofChange lawS2588BBrokenSpec)

/-- ITS FALSE NEIGHBOUR: 'it returns false'. Refute it at one input. -/
def lawS2588BBrokenWrong : ChangeSpec := { name := "lawS2588BBroken", fn := fun _ => fun
  | [d1, d2, d3, d4] => { results := [.lit (.bool false)], args := [d1, d2, d3, d4] }
  | _ => none }
def LawS2588BBrokenWrongFormAsk : Prop := lawS2588BBrokenRow.holds Ybaf.pinned (OpenSpec.ofChange lawS2588BBrokenWrong)

end Rows
end Go.Proofs.YbulkbaooFmt
