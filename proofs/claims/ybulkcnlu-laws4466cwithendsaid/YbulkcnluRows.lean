/-
  No cell of these rows narrows 'for every input' (looked for: loops, veiled, ifaces, maps, wideKeys, modest, calm, conditions, laid).
  DERIVED. THE GIVEN ROWS OF THIS SEAT. 2 by the template 'for every input the law returns true; each argument reads behind the call as it read before'; 0 by the template 'total and deterministic' (their statements: YbulkcnluTotals.lean).
  GIVEN WITH THE SEED: the statements are not yours to turn. If you find one false, say at which input.
  Laid BY PROGRAM, IN A SANDBOX (cutbox-rows.mjs): the forced cells as the released guide's own fill.sh prints them over the translation 266843c78b6ee1c9… (all of the seat's roots in one cut). By AI agents, Wed Nov 11 2026. No macro, syntax, notation, axiom, sorry.
-/
import Derived.Test.YbulkcnluChecked
import GoSem.Claim
import GoSem.ClaimJoined
import GoSem.ClaimMapViews
import Derived.JoinedTies
import Derived.KernelRfl
namespace Go.Proofs.Ybulkcnlu
/- THE CELL 'sum', in the pinned program and in every row, IS THE sha256 OF THE DUMP (.gsa) THAT YbulkcnluProg.lean LOADS. Nothing in Lean hashes anything: it is a label: what it is worth is what the hold of that sum in a sandbox is worth. -/
noncomputable def Yba.pinned : Pinned := { name := "ybulkcnlu", sum := "266843c78b6ee1c9f722b646468ec3e069fd7a82c374adae956c699d2cea59ad", checked := Yba.checked }
namespace Rows
def none {H : Type} : Left H := { results := [], args := [] }

/-- 'server.LawS4466CSequence': WHATEVER THE INPUT: true; the input reads as it did. -/
def lawS4466CSequenceSpec : ChangeSpec := { name := "lawS4466CSequence", fn := fun _ => fun
  | [d1, d2, d3] => { results := [.lit (.bool true)], args := [d1, d2, d3] }
  | _ => none }
def lawS4466CSequenceRow : OpenClaim := { program := "ybulkcnlu", sum := "266843c78b6ee1c9f722b646468ec3e069fd7a82c374adae956c699d2cea59ad", func := "example.com/tidemark/tidemark/internal/server.LawS4466CSequence", spec := "lawS4466CSequence", inPlace := ["(*internal/sync.Mutex).Lock", "internal/race.Disable", "sync/atomic.CompareAndSwapInt32", "internal/race.Enable", "internal/race.Acquire", "(*internal/sync.Mutex).lockSlow", "internal/sync.runtime_canSpin", "internal/sync.runtime_doSpin", "internal/sync.throw", "internal/sync.runtime_nanotime", "internal/sync.runtime_SemacquireMutex", "sync/atomic.AddInt32", "(*internal/sync.Mutex).Unlock", "internal/race.ReleaseMerge", "(*internal/sync.Mutex).unlockSlow", "internal/sync.fatal", "internal/sync.runtime_Semrelease"], apart := false }
def LawS4466CSequenceSaid : Prop := lawS4466CSequenceRow.holds Yba.pinned (OpenSpec.ofChange lawS4466CSequenceSpec)

/-- ITS FALSE NEIGHBOUR: 'it returns false'. Refute it at one input. -/
def lawS4466CSequenceWrong : ChangeSpec := { name := "lawS4466CSequence", fn := fun _ => fun
  | [d1, d2, d3] => { results := [.lit (.bool false)], args := [d1, d2, d3] }
  | _ => none }
def LawS4466CSequenceWrongFalsely : Prop := lawS4466CSequenceRow.holds Yba.pinned (OpenSpec.ofChange lawS4466CSequenceWrong)

/-- 'server.LawS4466CWithEnd': WHATEVER THE INPUT: true; the input reads as it did. -/
def lawS4466CWithEndSpec : ChangeSpec := { name := "lawS4466CWithEnd", fn := fun _ => fun
  | [d] => { results := [.lit (.bool true)], args := [d] }
  | _ => none }
def lawS4466CWithEndRow : OpenClaim := { program := "ybulkcnlu", sum := "266843c78b6ee1c9f722b646468ec3e069fd7a82c374adae956c699d2cea59ad", func := "example.com/tidemark/tidemark/internal/server.LawS4466CWithEnd", spec := "lawS4466CWithEnd", inPlace := ["(*internal/sync.Mutex).Lock", "internal/race.Disable", "sync/atomic.CompareAndSwapInt32", "internal/race.Enable", "internal/race.Acquire", "(*internal/sync.Mutex).lockSlow", "internal/sync.runtime_canSpin", "internal/sync.runtime_doSpin", "internal/sync.throw", "internal/sync.runtime_nanotime", "internal/sync.runtime_SemacquireMutex", "sync/atomic.AddInt32", "(*internal/sync.Mutex).Unlock", "internal/race.ReleaseMerge", "(*internal/sync.Mutex).unlockSlow", "internal/sync.fatal", "internal/sync.runtime_Semrelease"], unfollowed := true, recurses := true, apart := false }
def LawS4466CWithEndSaid : Prop := lawS4466CWithEndRow.holds Yba.pinned (OpenSpec.ofChange lawS4466CWithEndSpec)

/-- ITS FALSE NEIGHBOUR: 'it returns false'. Refute it at one input. -/
def lawS4466CWithEndWrong : ChangeSpec := { name := "lawS4466CWithEnd", fn := fun _ => fun
  | [d] => { results := [.lit (.bool false)], args := [d] }
  | _ => none }
def LawS4466CWithEndWrongFalsely : Prop := lawS4466CWithEndRow.holds Yba.pinned (OpenSpec.ofChange lawS4466CWithEndWrong)

end Rows
end Go.Proofs.Ybulkcnlu
