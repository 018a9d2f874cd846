/-
  No cell of these rows narrows 'for every input' (looked for: loops, veiled, ifaces, maps, wideKeys, modest, calm, conditions, laid).
  DERIVED. THE GIVEN ROWS OF THIS SEAT. 2 by the template 'for every input the law returns true; each argument reads behind the call as it read before'; 0 by the template 'total and deterministic' (their statements: YbulkcqewTotals.lean).
  GIVEN WITH THE SEED: the statements are not yours to turn. If you find one false, say at which input.
  Laid BY PROGRAM, IN A SANDBOX (cutbox-rows.mjs): the forced cells as the released guide's own fill.sh prints them over the translation d6a4225f2e3dbbba… (all of the seat's roots in one cut). By AI agents, Wed Nov 11 2026. No macro, syntax, notation, axiom, sorry.
-/
import Derived.Test.YbulkcqewChecked
import GoSem.Claim
import GoSem.ClaimJoined
import GoSem.ClaimMapViews
import Derived.JoinedTies
import Derived.KernelRfl
namespace Go.Proofs.Ybulkcqew
/- THE CELL 'sum', in the pinned program and in every row, IS THE sha256 OF THE DUMP (.gsa) THAT YbulkcqewProg.lean LOADS. Nothing in Lean hashes anything: it is a label: what it is worth is what the hold of that sum in a sandbox is worth. -/
noncomputable def Yba.pinned : Pinned := { name := "ybulkcqew", sum := "d6a4225f2e3dbbbaa0c4ea0f2b416cb803067ab6c5ed988675d7d32c218c3923", checked := Yba.checked }
namespace Rows
def none {H : Type} : Left H := { results := [], args := [] }

/-- 'bench.LawS4598AScript': WHATEVER THE INPUT: true; the input reads as it did. -/
def lawS4598AScriptSpec : ChangeSpec := { name := "lawS4598AScript", fn := fun _ => fun
  | [d1, d2] => { results := [.lit (.bool true)], args := [d1, d2] }
  | _ => none }
def lawS4598AScriptRow : OpenClaim := { program := "ybulkcqew", sum := "d6a4225f2e3dbbbaa0c4ea0f2b416cb803067ab6c5ed988675d7d32c218c3923", func := "example.com/chronoseri/chronoseri/internal/bench.LawS4598AScript", spec := "lawS4598AScript", inPlace := ["sync/atomic.StoreInt64", "(*internal/sync.Mutex).Lock", "internal/race.Disable", "sync/atomic.CompareAndSwapInt32", "internal/race.Enable", "internal/race.Acquire", "(*internal/sync.Mutex).lockSlow", "internal/sync.runtime_canSpin", "internal/sync.runtime_doSpin", "internal/sync.throw", "internal/sync.runtime_nanotime", "internal/sync.runtime_SemacquireMutex", "sync/atomic.AddInt32", "(*internal/sync.Mutex).Unlock", "internal/race.ReleaseMerge", "(*internal/sync.Mutex).unlockSlow", "internal/sync.fatal", "internal/sync.runtime_Semrelease", "sync/atomic.LoadInt64"], apart := false }
def LawS4598AScriptSaid : Prop := lawS4598AScriptRow.holds Yba.pinned (OpenSpec.ofChange lawS4598AScriptSpec)

/-- ITS FALSE NEIGHBOUR: 'it returns false'. Refute it at one input. -/
def lawS4598AScriptWrong : ChangeSpec := { name := "lawS4598AScript", fn := fun _ => fun
  | [d1, d2] => { results := [.lit (.bool false)], args := [d1, d2] }
  | _ => none }
def LawS4598AScriptWrongFalsely : Prop := lawS4598AScriptRow.holds Yba.pinned (OpenSpec.ofChange lawS4598AScriptWrong)

/-- 'bench.LawS4598APerm': WHATEVER THE INPUT: true; the input reads as it did. -/
def lawS4598APermSpec : ChangeSpec := { name := "lawS4598APerm", fn := fun _ => fun
  | [d1, d2] => { results := [.lit (.bool true)], args := [d1, d2] }
  | _ => none }
def lawS4598APermRow : OpenClaim := { program := "ybulkcqew", sum := "d6a4225f2e3dbbbaa0c4ea0f2b416cb803067ab6c5ed988675d7d32c218c3923", func := "example.com/chronoseri/chronoseri/internal/bench.LawS4598APerm", spec := "lawS4598APerm", inPlace := ["sync/atomic.StoreInt64", "sync/atomic.AddInt64", "(*internal/sync.Mutex).Lock", "internal/race.Disable", "sync/atomic.CompareAndSwapInt32", "internal/race.Enable", "internal/race.Acquire", "(*internal/sync.Mutex).lockSlow", "internal/sync.runtime_canSpin", "internal/sync.runtime_doSpin", "internal/sync.throw", "internal/sync.runtime_nanotime", "internal/sync.runtime_SemacquireMutex", "sync/atomic.AddInt32", "(*internal/sync.Mutex).Unlock", "internal/race.ReleaseMerge", "(*internal/sync.Mutex).unlockSlow", "internal/sync.fatal", "internal/sync.runtime_Semrelease", "sync/atomic.LoadInt64"], apart := false }
def LawS4598APermSaid : Prop := lawS4598APermRow.holds Yba.pinned (OpenSpec.ofChange lawS4598APermSpec)

/-- ITS FALSE NEIGHBOUR: 'it returns false'. Refute it at one input. -/
def lawS4598APermWrong : ChangeSpec := { name := "lawS4598APerm", fn := fun _ => fun
  | [d1, d2] => { results := [.lit (.bool false)], args := [d1, d2] }
  | _ => none }
def LawS4598APermWrongFalsely : Prop := lawS4598APermRow.holds Yba.pinned (OpenSpec.ofChange lawS4598APermWrong)

end Rows
end Go.Proofs.Ybulkcqew
