/-
  No cell of these rows narrows 'for every input' (looked for: loops, veiled, ifaces, maps, wideKeys, modest, calm, conditions, laid).
  DERIVED. THE GIVEN ROWS OF THIS SEAT. 1 by the template 'for every input the law returns true; each argument reads behind the call as it read before'; 0 by the template 'total and deterministic' (their statements: YbulkbaooTotals.lean).
  GIVEN WITH THE SEED: the statements are not yours to turn. If you find one false, say at which input.
  Laid BY PROGRAM, IN A SANDBOX (cutbox-rows.mjs): the forced cells as the released guide's own fill.sh prints them over the translation 2ad9d9b738df6f4a… (all of the seat's roots in one cut). By AI agents, Wed Nov 11 2026. No macro, syntax, notation, axiom, sorry.
-/
import Derived.Test.YbulkbaooChecked
import GoSem.Claim
import GoSem.ClaimJoined
import GoSem.ClaimMapViews
import Derived.JoinedTies
import Derived.KernelRfl
namespace Go.Proofs.Ybulkbaoo
/- THE CELL 'sum', in the pinned program and in every row, IS THE sha256 OF THE DUMP (.gsa) THAT YbulkbaooProg.lean LOADS. Nothing in Lean hashes anything: it is a label: what it is worth is what the hold of that sum in a sandbox is worth. -/
noncomputable def Yba.pinned : Pinned := { name := "ybulkbaoo", sum := "2ad9d9b738df6f4a9ad6b1e49511b291194891e0da9a3ebdbb172c626a3dfc29", checked := Yba.checked }
namespace Rows
def none {H : Type} : Left H := { results := [], args := [] }

/-- 'repository.LawS2588CLastApplied': WHATEVER THE INPUT: true; the input reads as it did. -/
def lawS2588CLastAppliedSpec : ChangeSpec := { name := "lawS2588CLastApplied", fn := fun _ => fun
  | [d1, d2, d3, d4] => { results := [.lit (.bool true)], args := [d1, d2, d3, d4] }
  | _ => none }
def lawS2588CLastAppliedRow : OpenClaim := { program := "ybulkbaoo", sum := "2ad9d9b738df6f4a9ad6b1e49511b291194891e0da9a3ebdbb172c626a3dfc29", func := "example.com/shrike/shrike/internal/repository.LawS2588CLastApplied", spec := "lawS2588CLastApplied", inPlace := ["sync/atomic.LoadUint32", "(*sync.RWMutex).RLock", "internal/race.Read", "internal/race.Disable", "sync/atomic.AddInt32", "sync.runtime_SemacquireRWMutexR", "internal/race.Enable", "internal/race.Acquire", "(*sync.RWMutex).RUnlock", "internal/race.ReleaseMerge", "(*sync.RWMutex).rUnlockSlow", "sync.fatal", "sync.runtime_Semrelease"], plainKeys := false, apart := false }
def LawS2588CLastAppliedSaid : Prop := lawS2588CLastAppliedRow.holds Yba.pinned (OpenSpec.ofChange lawS2588CLastAppliedSpec)

/-- ITS FALSE NEIGHBOUR: 'it returns false'. Refute it at one input. -/
def lawS2588CLastAppliedWrong : ChangeSpec := { name := "lawS2588CLastApplied", fn := fun _ => fun
  | [d1, d2, d3, d4] => { results := [.lit (.bool false)], args := [d1, d2, d3, d4] }
  | _ => none }
def LawS2588CLastAppliedWrongFalsely : Prop := lawS2588CLastAppliedRow.holds Yba.pinned (OpenSpec.ofChange lawS2588CLastAppliedWrong)

end Rows
end Go.Proofs.Ybulkbaoo
