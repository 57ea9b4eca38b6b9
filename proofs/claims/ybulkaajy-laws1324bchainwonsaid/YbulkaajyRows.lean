/-
  No cell of these rows narrows 'for every input' (looked for: loops, veiled, ifaces, maps, wideKeys, modest, calm, conditions, laid).
  DERIVED. THE GIVEN ROWS OF THIS SEAT. 2 by the template 'for every input the law returns true; each argument reads behind the call as it read before'; 0 by the template 'total and deterministic' (their statements: YbulkaajyTotals.lean).
  GIVEN WITH THE SEED: the statements are not yours to turn. If you find one false, say at which input.
  Laid BY PROGRAM, IN A SANDBOX (cutbox-rows.mjs): the forced cells as the released guide's own fill.sh prints them over the translation 527e2b50deb2768a… (all of the seat's roots in one cut). By AI agents, Wed Nov 11 2026. No macro, syntax, notation, axiom, sorry.
-/
import Derived.Test.YbulkaajyChecked
import GoSem.Claim
import GoSem.ClaimJoined
import GoSem.ClaimMapViews
import Derived.JoinedTies
import Derived.KernelRfl
namespace Go.Proofs.Ybulkaajy
/- THE CELL 'sum', in the pinned program and in every row, IS THE sha256 OF THE DUMP (.gsa) THAT YbulkaajyProg.lean LOADS. Nothing in Lean hashes anything: it is a label: what it is worth is what the hold of that sum in a sandbox is worth. -/
noncomputable def Yba.pinned : Pinned := { name := "ybulkaajy", sum := "527e2b50deb2768a136e73b390405a083c72895991e4b6c8db1624ab9d2f2af3", checked := Yba.checked }
namespace Rows
def none {H : Type} : Left H := { results := [], args := [] }

/-- 'tripwright.LawS1324BSets': WHATEVER THE INPUT: true; the input reads as it did. -/
def lawS1324BSetsSpec : ChangeSpec := { name := "lawS1324BSets", fn := fun _ => fun
  | [d1, d2, d3, d4, d5] => { results := [.lit (.bool true)], args := [d1, d2, d3, d4, d5] }
  | _ => none }
def lawS1324BSetsRow : OpenClaim := { program := "ybulkaajy", sum := "527e2b50deb2768a136e73b390405a083c72895991e4b6c8db1624ab9d2f2af3", func := "example.com/tripwright/tripwright.LawS1324BSets", spec := "lawS1324BSets", inPlace := ["(*internal/sync.Mutex).Lock", "internal/race.Disable", "sync/atomic.CompareAndSwapInt32", "internal/race.Enable", "internal/race.Acquire", "(*internal/sync.Mutex).lockSlow", "internal/sync.runtime_canSpin", "internal/sync.runtime_doSpin", "internal/sync.throw", "internal/sync.runtime_nanotime", "internal/sync.runtime_SemacquireMutex", "sync/atomic.AddInt32", "(*internal/sync.Mutex).Unlock", "internal/race.ReleaseMerge", "(*internal/sync.Mutex).unlockSlow", "internal/sync.fatal", "internal/sync.runtime_Semrelease", "(*internal/sync.Mutex).TryLock"], apart := false }
def LawS1324BSetsSaid : Prop := lawS1324BSetsRow.holds Yba.pinned (OpenSpec.ofChange lawS1324BSetsSpec)

/-- ITS FALSE NEIGHBOUR: 'it returns false'. Refute it at one input. -/
def lawS1324BSetsWrong : ChangeSpec := { name := "lawS1324BSets", fn := fun _ => fun
  | [d1, d2, d3, d4, d5] => { results := [.lit (.bool false)], args := [d1, d2, d3, d4, d5] }
  | _ => none }
def LawS1324BSetsWrongFalsely : Prop := lawS1324BSetsRow.holds Yba.pinned (OpenSpec.ofChange lawS1324BSetsWrong)

/-- 'tripwright.LawS1324BChainWon': WHATEVER THE INPUT: true; the input reads as it did. -/
def lawS1324BChainWonSpec : ChangeSpec := { name := "lawS1324BChainWon", fn := fun _ => fun
  | [d1, d2] => { results := [.lit (.bool true)], args := [d1, d2] }
  | _ => none }
def lawS1324BChainWonRow : OpenClaim := { program := "ybulkaajy", sum := "527e2b50deb2768a136e73b390405a083c72895991e4b6c8db1624ab9d2f2af3", func := "example.com/tripwright/tripwright.LawS1324BChainWon", spec := "lawS1324BChainWon", inPlace := ["(*internal/sync.Mutex).Lock", "internal/race.Disable", "sync/atomic.CompareAndSwapInt32", "internal/race.Enable", "internal/race.Acquire", "(*internal/sync.Mutex).lockSlow", "internal/sync.runtime_canSpin", "internal/sync.runtime_doSpin", "internal/sync.throw", "internal/sync.runtime_nanotime", "internal/sync.runtime_SemacquireMutex", "sync/atomic.AddInt32", "(*internal/sync.Mutex).Unlock", "internal/race.ReleaseMerge", "(*internal/sync.Mutex).unlockSlow", "internal/sync.fatal", "internal/sync.runtime_Semrelease", "(*internal/sync.Mutex).TryLock"], apart := false }
def LawS1324BChainWonSaid : Prop := lawS1324BChainWonRow.holds Yba.pinned (OpenSpec.ofChange lawS1324BChainWonSpec)

/-- ITS FALSE NEIGHBOUR: 'it returns false'. Refute it at one input. -/
def lawS1324BChainWonWrong : ChangeSpec := { name := "lawS1324BChainWon", fn := fun _ => fun
  | [d1, d2] => { results := [.lit (.bool false)], args := [d1, d2] }
  | _ => none }
def LawS1324BChainWonWrongFalsely : Prop := lawS1324BChainWonRow.holds Yba.pinned (OpenSpec.ofChange lawS1324BChainWonWrong)

end Rows
end Go.Proofs.Ybulkaajy
