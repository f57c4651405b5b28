/-
  No cell of these rows narrows 'for every input' (looked for: loops, veiled, ifaces, maps, wideKeys, modest, calm, conditions, laid).
  DERIVED. THE GIVEN ROWS OF THIS SEAT. 2 by the template 'for every input the law returns true; each argument reads behind the call as it read before'; 0 by the template 'total and deterministic' (their statements: YbulkddgqTotals.lean).
  GIVEN WITH THE SEED: the statements are not yours to turn. If you find one false, say at which input.
  Laid BY PROGRAM, IN A SANDBOX (cutbox-rows.mjs): the forced cells as the released guide's own fill.sh prints them over the translation e65253e24495e1cb… (all of the seat's roots in one cut). By AI agents, Wed Nov 11 2026. No macro, syntax, notation, axiom, sorry.
-/
import Derived.Test.YbulkddgqChecked
import GoSem.Claim
import GoSem.ClaimJoined
import GoSem.ClaimMapViews
import Derived.JoinedTies
import Derived.KernelRfl
namespace Go.Proofs.Ybulkddgq
/- THE CELL 'sum', in the pinned program and in every row, IS THE sha256 OF THE DUMP (.gsa) THAT YbulkddgqProg.lean LOADS. Nothing in Lean hashes anything: it is a label: what it is worth is what the hold of that sum in a sandbox is worth. -/
noncomputable def Yba.pinned : Pinned := { name := "ybulkddgq", sum := "e65253e24495e1cb5d4e2c0db8084914af38c5ff38e95e0a6364d8603167bbd4", checked := Yba.checked }
namespace Rows
def none {H : Type} : Left H := { results := [], args := [] }

/-- 'lru.LawS5229AModel': WHATEVER THE INPUT: true; the input reads as it did. -/
def lawS5229AModelSpec : ChangeSpec := { name := "lawS5229AModel", fn := fun _ => fun
  | [d1, d2] => { results := [.lit (.bool true)], args := [d1, d2] }
  | _ => none }
def lawS5229AModelRow : OpenClaim := { program := "ybulkddgq", sum := "e65253e24495e1cb5d4e2c0db8084914af38c5ff38e95e0a6364d8603167bbd4", func := "example.com/corbel/corbel/internal/lru.LawS5229AModel", spec := "lawS5229AModel", inPlace := ["(*internal/sync.Mutex).Lock", "internal/race.Disable", "sync/atomic.CompareAndSwapInt32", "internal/race.Enable", "internal/race.Acquire", "(*internal/sync.Mutex).lockSlow", "internal/sync.runtime_canSpin", "internal/sync.runtime_doSpin", "internal/sync.throw", "internal/sync.runtime_nanotime", "internal/sync.runtime_SemacquireMutex", "sync/atomic.AddInt32", "(*internal/sync.Mutex).Unlock", "internal/race.ReleaseMerge", "(*internal/sync.Mutex).unlockSlow", "internal/sync.fatal", "internal/sync.runtime_Semrelease"], apart := false }
def LawS5229AModelSaid : Prop := lawS5229AModelRow.holds Yba.pinned (OpenSpec.ofChange lawS5229AModelSpec)

/-- ITS FALSE NEIGHBOUR: 'it returns false'. Refute it at one input. -/
def lawS5229AModelWrong : ChangeSpec := { name := "lawS5229AModel", fn := fun _ => fun
  | [d1, d2] => { results := [.lit (.bool false)], args := [d1, d2] }
  | _ => none }
def LawS5229AModelWrongFalsely : Prop := lawS5229AModelRow.holds Yba.pinned (OpenSpec.ofChange lawS5229AModelWrong)

/-- 'lru.LawS5229AEvict': WHATEVER THE INPUT: true; the input reads as it did. -/
def lawS5229AEvictSpec : ChangeSpec := { name := "lawS5229AEvict", fn := fun _ => fun
  | [d1, d2] => { results := [.lit (.bool true)], args := [d1, d2] }
  | _ => none }
def lawS5229AEvictRow : OpenClaim := { program := "ybulkddgq", sum := "e65253e24495e1cb5d4e2c0db8084914af38c5ff38e95e0a6364d8603167bbd4", func := "example.com/corbel/corbel/internal/lru.LawS5229AEvict", spec := "lawS5229AEvict", inPlace := ["(*internal/sync.Mutex).Lock", "internal/race.Disable", "sync/atomic.CompareAndSwapInt32", "internal/race.Enable", "internal/race.Acquire", "(*internal/sync.Mutex).lockSlow", "internal/sync.runtime_canSpin", "internal/sync.runtime_doSpin", "internal/sync.throw", "internal/sync.runtime_nanotime", "internal/sync.runtime_SemacquireMutex", "sync/atomic.AddInt32", "(*internal/sync.Mutex).Unlock", "internal/race.ReleaseMerge", "(*internal/sync.Mutex).unlockSlow", "internal/sync.fatal", "internal/sync.runtime_Semrelease"], apart := false }
def LawS5229AEvictSaid : Prop := lawS5229AEvictRow.holds Yba.pinned (OpenSpec.ofChange lawS5229AEvictSpec)

/-- ITS FALSE NEIGHBOUR: 'it returns false'. Refute it at one input. -/
def lawS5229AEvictWrong : ChangeSpec := { name := "lawS5229AEvict", fn := fun _ => fun
  | [d1, d2] => { results := [.lit (.bool false)], args := [d1, d2] }
  | _ => none }
def LawS5229AEvictWrongFalsely : Prop := lawS5229AEvictRow.holds Yba.pinned (OpenSpec.ofChange lawS5229AEvictWrong)

end Rows
end Go.Proofs.Ybulkddgq
