/-
  DERIVED. GIVEN WITH THE SEED: THE CARDS: each row of YbulkbaooFmtRows.lean that lists a variable, with what it lists TIED to the program's text (the seventh form; the later family's looks); each row that meets fmt, with fmt's text TOLD by the authors' own Lean function (tested against real Go, not proved from fmt's source: count such statements apart). THE CARD IS WHAT COUNTS. Prove the row's statement (the work); the ties are given (YbulkbaooFmtTie.lean); close each card by the builder's one call (the guide's Derived/Test/ToyasCard.lean, 'card_holds'). Laid BY PROGRAM, IN A SANDBOX (cutbox-door.mjs). By AI agents, Wed Nov 11 2026. No macro, syntax, notation, axiom, sorry.
-/
import Derived.Test.YbulkbaooFmtRows
import GoSem.ClaimSeven
namespace Go.Proofs.YbulkbaooFmt
namespace Rows

/-- THE TOLD CARD OF 'client.LawS2588BQueue'. -/
def lawS2588BQueueCard : Claim7 := { stood := { row := lawS2588BQueueRow, standIns := [], harness := (true, "3bf43de77331623d775be2266c2afa93abced75b282f0b10b7ec098a9d1e1fc7"), looks := true }, told := true, goes := false }
def LawS2588BQueueToldSaid : Prop := Claim7.holds Ybaf.pinned (.plain (OpenSpec.ofChange lawS2588BQueueSpec)) lawS2588BQueueCard
/-- ITS FALSE NEIGHBOUR. Refute it at one input. -/
def LawS2588BQueueToldWrongFalsely : Prop := Claim7.holds Ybaf.pinned (.plain (OpenSpec.ofChange lawS2588BQueueWrong)) lawS2588BQueueCard

/-- THE TOLD CARD OF 'client.LawS2588BBroken'. -/
def lawS2588BBrokenCard : Claim7 := { stood := { row := lawS2588BBrokenRow, standIns := [], harness := (true, "3bf43de77331623d775be2266c2afa93abced75b282f0b10b7ec098a9d1e1fc7"), looks := true }, told := true, goes := false }
def LawS2588BBrokenToldSaid : Prop := Claim7.holds Ybaf.pinned (.plain (OpenSpec.ofChange lawS2588BBrokenSpec)) lawS2588BBrokenCard
/-- ITS FALSE NEIGHBOUR. Refute it at one input. -/
def LawS2588BBrokenToldWrongFalsely : Prop := Claim7.holds Ybaf.pinned (.plain (OpenSpec.ofChange lawS2588BBrokenWrong)) lawS2588BBrokenCard
end Rows
end Go.Proofs.YbulkbaooFmt
