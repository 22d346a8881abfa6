/-
  No cell of these rows narrows 'for every input' (looked for: loops, veiled, ifaces, maps, wideKeys, modest, calm, conditions, laid).
  DERIVED. THE GIVEN ROWS OF THIS SEAT. 3 by the template 'for every input the law returns true; each argument reads behind the call as it read before'; 0 by the template 'total and deterministic' (their statements: YbulkbsysTotals.lean).
  GIVEN WITH THE SEED: the statements are not yours to turn. If you find one false, say at which input.
  Laid BY PROGRAM, IN A SANDBOX (cutbox-rows.mjs): the forced cells as the released guide's own fill.sh prints them over the translation 24692b7538928c1b… (all of the seat's roots in one cut). By AI agents, Wed Nov 11 2026. No macro, syntax, notation, axiom, sorry.
-/
import Derived.Test.YbulkbsysChecked
import GoSem.Claim
import GoSem.ClaimJoined
import GoSem.ClaimMapViews
import Derived.JoinedTies
import Derived.KernelRfl
namespace Go.Proofs.Ybulkbsys
/- THE CELL 'sum', in the pinned program and in every row, IS THE sha256 OF THE DUMP (.gsa) THAT YbulkbsysProg.lean LOADS. Nothing in Lean hashes anything: it is a label: what it is worth is what the hold of that sum in a sandbox is worth. -/
noncomputable def Yba.pinned : Pinned := { name := "ybulkbsys", sum := "24692b7538928c1bd48b412aa14a20e841c8b202d7614eaaf8964ddd3fea327c", checked := Yba.checked }
namespace Rows
def none {H : Type} : Left H := { results := [], args := [] }

/-- 'ringhop.LawS3476BPredecessor': WHATEVER THE INPUT: true; the input reads as it did. -/
def lawS3476BPredecessorSpec : ChangeSpec := { name := "lawS3476BPredecessor", fn := fun _ => fun
  | [d1, d2, d3, d4, d5, d6, d7, d8, d9] => { results := [.lit (.bool true)], args := [d1, d2, d3, d4, d5, d6, d7, d8, d9] }
  | _ => none }
def lawS3476BPredecessorRow : OpenClaim := { program := "ybulkbsys", sum := "24692b7538928c1bd48b412aa14a20e841c8b202d7614eaaf8964ddd3fea327c", func := "example.com/ringhop/ringhop.LawS3476BPredecessor", spec := "lawS3476BPredecessor", inPlace := ["internal/bytealg.Compare", "(*internal/sync.Mutex).Lock", "internal/race.Disable", "sync/atomic.CompareAndSwapInt32", "internal/race.Enable", "internal/race.Acquire", "(*internal/sync.Mutex).lockSlow", "internal/sync.runtime_canSpin", "internal/sync.runtime_doSpin", "internal/sync.throw", "internal/sync.runtime_nanotime", "internal/sync.runtime_SemacquireMutex", "sync/atomic.AddInt32", "(*internal/sync.Mutex).Unlock", "internal/race.ReleaseMerge", "(*internal/sync.Mutex).unlockSlow", "internal/sync.fatal", "internal/sync.runtime_Semrelease"], unfollowed := true, recurses := true, plainKeys := false, apart := false }
def LawS3476BPredecessorSaid : Prop := lawS3476BPredecessorRow.holds Yba.pinned (OpenSpec.ofChange lawS3476BPredecessorSpec)

/-- ITS FALSE NEIGHBOUR: 'it returns false'. Refute it at one input. -/
def lawS3476BPredecessorWrong : ChangeSpec := { name := "lawS3476BPredecessor", fn := fun _ => fun
  | [d1, d2, d3, d4, d5, d6, d7, d8, d9] => { results := [.lit (.bool false)], args := [d1, d2, d3, d4, d5, d6, d7, d8, d9] }
  | _ => none }
def LawS3476BPredecessorWrongFalsely : Prop := lawS3476BPredecessorRow.holds Yba.pinned (OpenSpec.ofChange lawS3476BPredecessorWrong)

/-- 'ringhop.LawS3476BSuccessors': WHATEVER THE INPUT: true; the input reads as it did. -/
def lawS3476BSuccessorsSpec : ChangeSpec := { name := "lawS3476BSuccessors", fn := fun _ => fun
  | [d1, d2, d3, d4, d5, d6, d7] => { results := [.lit (.bool true)], args := [d1, d2, d3, d4, d5, d6, d7] }
  | _ => none }
def lawS3476BSuccessorsRow : OpenClaim := { program := "ybulkbsys", sum := "24692b7538928c1bd48b412aa14a20e841c8b202d7614eaaf8964ddd3fea327c", func := "example.com/ringhop/ringhop.LawS3476BSuccessors", spec := "lawS3476BSuccessors", inPlace := ["internal/bytealg.Compare", "(*internal/sync.Mutex).Lock", "internal/race.Disable", "sync/atomic.CompareAndSwapInt32", "internal/race.Enable", "internal/race.Acquire", "(*internal/sync.Mutex).lockSlow", "internal/sync.runtime_canSpin", "internal/sync.runtime_doSpin", "internal/sync.throw", "internal/sync.runtime_nanotime", "internal/sync.runtime_SemacquireMutex", "sync/atomic.AddInt32", "(*internal/sync.Mutex).Unlock", "internal/race.ReleaseMerge", "(*internal/sync.Mutex).unlockSlow", "internal/sync.fatal", "internal/sync.runtime_Semrelease"], unfollowed := true, recurses := true, plainKeys := false, apart := false }
def LawS3476BSuccessorsSaid : Prop := lawS3476BSuccessorsRow.holds Yba.pinned (OpenSpec.ofChange lawS3476BSuccessorsSpec)

/-- ITS FALSE NEIGHBOUR: 'it returns false'. Refute it at one input. -/
def lawS3476BSuccessorsWrong : ChangeSpec := { name := "lawS3476BSuccessors", fn := fun _ => fun
  | [d1, d2, d3, d4, d5, d6, d7] => { results := [.lit (.bool false)], args := [d1, d2, d3, d4, d5, d6, d7] }
  | _ => none }
def LawS3476BSuccessorsWrongFalsely : Prop := lawS3476BSuccessorsRow.holds Yba.pinned (OpenSpec.ofChange lawS3476BSuccessorsWrong)

/-- 'ringhop.LawS3476BFingers': WHATEVER THE INPUT: true; the input reads as it did. -/
def lawS3476BFingersSpec : ChangeSpec := { name := "lawS3476BFingers", fn := fun _ => fun
  | [d1, d2, d3] => { results := [.lit (.bool true)], args := [d1, d2, d3] }
  | _ => none }
def lawS3476BFingersRow : OpenClaim := { program := "ybulkbsys", sum := "24692b7538928c1bd48b412aa14a20e841c8b202d7614eaaf8964ddd3fea327c", func := "example.com/ringhop/ringhop.LawS3476BFingers", spec := "lawS3476BFingers", inPlace := ["internal/bytealg.Compare", "(*internal/sync.Mutex).Lock", "internal/race.Disable", "sync/atomic.CompareAndSwapInt32", "internal/race.Enable", "internal/race.Acquire", "(*internal/sync.Mutex).lockSlow", "internal/sync.runtime_canSpin", "internal/sync.runtime_doSpin", "internal/sync.throw", "internal/sync.runtime_nanotime", "internal/sync.runtime_SemacquireMutex", "sync/atomic.AddInt32", "(*internal/sync.Mutex).Unlock", "internal/race.ReleaseMerge", "(*internal/sync.Mutex).unlockSlow", "internal/sync.fatal", "internal/sync.runtime_Semrelease"], unfollowed := true, recurses := true, plainKeys := false, apart := false }
def LawS3476BFingersSaid : Prop := lawS3476BFingersRow.holds Yba.pinned (OpenSpec.ofChange lawS3476BFingersSpec)

/-- ITS FALSE NEIGHBOUR: 'it returns false'. Refute it at one input. -/
def lawS3476BFingersWrong : ChangeSpec := { name := "lawS3476BFingers", fn := fun _ => fun
  | [d1, d2, d3] => { results := [.lit (.bool false)], args := [d1, d2, d3] }
  | _ => none }
def LawS3476BFingersWrongFalsely : Prop := lawS3476BFingersRow.holds Yba.pinned (OpenSpec.ofChange lawS3476BFingersWrong)

end Rows
end Go.Proofs.Ybulkbsys
