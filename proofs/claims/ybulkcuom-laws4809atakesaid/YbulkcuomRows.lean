/-
  No cell of these rows narrows 'for every input' (looked for: loops, veiled, ifaces, maps, wideKeys, modest, calm, conditions, laid).
  DERIVED. THE GIVEN ROWS OF THIS SEAT. 2 by the template 'for every input the law returns true; each argument reads behind the call as it read before'; 0 by the template 'total and deterministic' (their statements: YbulkcuomTotals.lean).
  GIVEN WITH THE SEED: the statements are not yours to turn. If you find one false, say at which input.
  Laid BY PROGRAM, IN A SANDBOX (cutbox-rows.mjs): the forced cells as the released guide's own fill.sh prints them over the translation 0156400c84fd50c2… (all of the seat's roots in one cut). By AI agents, Wed Nov 11 2026. No macro, syntax, notation, axiom, sorry.
-/
import Derived.Test.YbulkcuomChecked
import GoSem.Claim
import GoSem.ClaimJoined
import GoSem.ClaimMapViews
import Derived.JoinedTies
import Derived.KernelRfl
namespace Go.Proofs.Ybulkcuom
/- THE CELL 'sum', in the pinned program and in every row, IS THE sha256 OF THE DUMP (.gsa) THAT YbulkcuomProg.lean LOADS. Nothing in Lean hashes anything: it is a label: what it is worth is what the hold of that sum in a sandbox is worth. -/
noncomputable def Yba.pinned : Pinned := { name := "ybulkcuom", sum := "0156400c84fd50c21bbc6ab1ac2d3c243439ad135a01d1d0afbe170d82961604", checked := Yba.checked }
namespace Rows
def none {H : Type} : Left H := { results := [], args := [] }

/-- 'tcp.LawS4809ATake': WHATEVER THE INPUT: true; the input reads as it did. -/
def lawS4809ATakeSpec : ChangeSpec := { name := "lawS4809ATake", fn := fun _ => fun
  | [d1, d2, d3] => { results := [.lit (.bool true)], args := [d1, d2, d3] }
  | _ => none }
def lawS4809ATakeRow : OpenClaim := { program := "ybulkcuom", sum := "0156400c84fd50c21bbc6ab1ac2d3c243439ad135a01d1d0afbe170d82961604", func := "example.com/causeway/causeway/tcp.LawS4809ATake", spec := "lawS4809ATake", inPlace := ["(*internal/sync.Mutex).Lock", "internal/race.Disable", "sync/atomic.CompareAndSwapInt32", "internal/race.Enable", "internal/race.Acquire", "(*internal/sync.Mutex).lockSlow", "internal/sync.runtime_canSpin", "internal/sync.runtime_doSpin", "internal/sync.throw", "internal/sync.runtime_nanotime", "internal/sync.runtime_SemacquireMutex", "sync/atomic.AddInt32", "(*internal/sync.Mutex).Unlock", "internal/race.ReleaseMerge", "(*internal/sync.Mutex).unlockSlow", "internal/sync.fatal", "internal/sync.runtime_Semrelease", "(*internal/sync.Mutex).TryLock"], apart := false }
def LawS4809ATakeSaid : Prop := lawS4809ATakeRow.holds Yba.pinned (OpenSpec.ofChange lawS4809ATakeSpec)

/-- ITS FALSE NEIGHBOUR: 'it returns false'. Refute it at one input. -/
def lawS4809ATakeWrong : ChangeSpec := { name := "lawS4809ATake", fn := fun _ => fun
  | [d1, d2, d3] => { results := [.lit (.bool false)], args := [d1, d2, d3] }
  | _ => none }
def LawS4809ATakeWrongFalsely : Prop := lawS4809ATakeRow.holds Yba.pinned (OpenSpec.ofChange lawS4809ATakeWrong)

/-- 'tcp.LawS4809AUntaken': WHATEVER THE INPUT: true; the input reads as it did. -/
def lawS4809AUntakenSpec : ChangeSpec := { name := "lawS4809AUntaken", fn := fun _ => fun
  | [d1, d2] => { results := [.lit (.bool true)], args := [d1, d2] }
  | _ => none }
def lawS4809AUntakenRow : OpenClaim := { program := "ybulkcuom", sum := "0156400c84fd50c21bbc6ab1ac2d3c243439ad135a01d1d0afbe170d82961604", func := "example.com/causeway/causeway/tcp.LawS4809AUntaken", spec := "lawS4809AUntaken", inPlace := ["(*internal/sync.Mutex).Lock", "internal/race.Disable", "sync/atomic.CompareAndSwapInt32", "internal/race.Enable", "internal/race.Acquire", "(*internal/sync.Mutex).lockSlow", "internal/sync.runtime_canSpin", "internal/sync.runtime_doSpin", "internal/sync.throw", "internal/sync.runtime_nanotime", "internal/sync.runtime_SemacquireMutex", "sync/atomic.AddInt32", "(*internal/sync.Mutex).Unlock", "internal/race.ReleaseMerge", "(*internal/sync.Mutex).unlockSlow", "internal/sync.fatal", "internal/sync.runtime_Semrelease"], apart := false }
def LawS4809AUntakenSaid : Prop := lawS4809AUntakenRow.holds Yba.pinned (OpenSpec.ofChange lawS4809AUntakenSpec)

/-- ITS FALSE NEIGHBOUR: 'it returns false'. Refute it at one input. -/
def lawS4809AUntakenWrong : ChangeSpec := { name := "lawS4809AUntaken", fn := fun _ => fun
  | [d1, d2] => { results := [.lit (.bool false)], args := [d1, d2] }
  | _ => none }
def LawS4809AUntakenWrongFalsely : Prop := lawS4809AUntakenRow.holds Yba.pinned (OpenSpec.ofChange lawS4809AUntakenWrong)

end Rows
end Go.Proofs.Ybulkcuom
