/-
  No cell of these rows narrows 'for every input' (looked for: loops, veiled, ifaces, maps, wideKeys, modest, calm, conditions, laid).
  DERIVED. THE GIVEN ROWS OF THIS SEAT. 3 by the template 'for every input the law returns true; each argument reads behind the call as it read before'; 0 by the template 'total and deterministic' (their statements: YbulkddigTotals.lean).
  GIVEN WITH THE SEED: the statements are not yours to turn. If you find one false, say at which input.
  Laid BY PROGRAM, IN A SANDBOX (cutbox-rows.mjs): the forced cells as the released guide's own fill.sh prints them over the translation b82aa5db6eca10df… (all of the seat's roots in one cut). By AI agents, Wed Nov 11 2026. No macro, syntax, notation, axiom, sorry.
-/
import Derived.Test.YbulkddigChecked
import GoSem.Claim
import GoSem.ClaimJoined
import GoSem.ClaimMapViews
import Derived.JoinedTies
import Derived.KernelRfl
namespace Go.Proofs.Ybulkddig
/- THE CELL 'sum', in the pinned program and in every row, IS THE sha256 OF THE DUMP (.gsa) THAT YbulkddigProg.lean LOADS. Nothing in Lean hashes anything: it is a label: what it is worth is what the hold of that sum in a sandbox is worth. -/
noncomputable def Yba.pinned : Pinned := { name := "ybulkddig", sum := "b82aa5db6eca10df249d613bd6e70f7beae6269d3bc16bf9303656d2af95ba33", checked := Yba.checked }
namespace Rows
def none {H : Type} : Left H := { results := [], args := [] }

/-- 'airquorum.LawS5232BExact': WHATEVER THE INPUT: true; the input reads as it did. -/
def lawS5232BExactSpec : ChangeSpec := { name := "lawS5232BExact", fn := fun _ => fun
  | [d1, d2, d3] => { results := [.lit (.bool true)], args := [d1, d2, d3] }
  | _ => none }
def lawS5232BExactRow : OpenClaim := { program := "ybulkddig", sum := "b82aa5db6eca10df249d613bd6e70f7beae6269d3bc16bf9303656d2af95ba33", func := "example.com/airquorum/airquorum.LawS5232BExact", spec := "lawS5232BExact", apart := false }
def LawS5232BExactSaid : Prop := lawS5232BExactRow.holds Yba.pinned (OpenSpec.ofChange lawS5232BExactSpec)

/-- ITS FALSE NEIGHBOUR: 'it returns false'. Refute it at one input. -/
def lawS5232BExactWrong : ChangeSpec := { name := "lawS5232BExact", fn := fun _ => fun
  | [d1, d2, d3] => { results := [.lit (.bool false)], args := [d1, d2, d3] }
  | _ => none }
def LawS5232BExactWrongFalsely : Prop := lawS5232BExactRow.holds Yba.pinned (OpenSpec.ofChange lawS5232BExactWrong)

/-- 'airquorum.LawS5232BPhase': WHATEVER THE INPUT: true; the input reads as it did. -/
def lawS5232BPhaseSpec : ChangeSpec := { name := "lawS5232BPhase", fn := fun _ => fun
  | [d1, d2, d3, d4] => { results := [.lit (.bool true)], args := [d1, d2, d3, d4] }
  | _ => none }
def lawS5232BPhaseRow : OpenClaim := { program := "ybulkddig", sum := "b82aa5db6eca10df249d613bd6e70f7beae6269d3bc16bf9303656d2af95ba33", func := "example.com/airquorum/airquorum.LawS5232BPhase", spec := "lawS5232BPhase", apart := false }
def LawS5232BPhaseSaid : Prop := lawS5232BPhaseRow.holds Yba.pinned (OpenSpec.ofChange lawS5232BPhaseSpec)

/-- ITS FALSE NEIGHBOUR: 'it returns false'. Refute it at one input. -/
def lawS5232BPhaseWrong : ChangeSpec := { name := "lawS5232BPhase", fn := fun _ => fun
  | [d1, d2, d3, d4] => { results := [.lit (.bool false)], args := [d1, d2, d3, d4] }
  | _ => none }
def LawS5232BPhaseWrongFalsely : Prop := lawS5232BPhaseRow.holds Yba.pinned (OpenSpec.ofChange lawS5232BPhaseWrong)

/-- 'radio.LawS5232CScript': WHATEVER THE INPUT: true; the input reads as it did. -/
def lawS5232CScriptSpec : ChangeSpec := { name := "lawS5232CScript", fn := fun _ => fun
  | [d1, d2, d3] => { results := [.lit (.bool true)], args := [d1, d2, d3] }
  | _ => none }
def lawS5232CScriptRow : OpenClaim := { program := "ybulkddig", sum := "b82aa5db6eca10df249d613bd6e70f7beae6269d3bc16bf9303656d2af95ba33", func := "example.com/airquorum/airquorum/internal/radio.LawS5232CScript", spec := "lawS5232CScript", inPlace := ["(*internal/sync.Mutex).Lock", "internal/race.Disable", "sync/atomic.CompareAndSwapInt32", "internal/race.Enable", "internal/race.Acquire", "(*internal/sync.Mutex).lockSlow", "internal/sync.runtime_canSpin", "internal/sync.runtime_doSpin", "internal/sync.throw", "internal/sync.runtime_nanotime", "internal/sync.runtime_SemacquireMutex", "sync/atomic.AddInt32", "(*internal/sync.Mutex).Unlock", "internal/race.ReleaseMerge", "(*internal/sync.Mutex).unlockSlow", "internal/sync.fatal", "internal/sync.runtime_Semrelease"], unfollowed := true, recurses := true, apart := false }
def LawS5232CScriptSaid : Prop := lawS5232CScriptRow.holds Yba.pinned (OpenSpec.ofChange lawS5232CScriptSpec)

/-- ITS FALSE NEIGHBOUR: 'it returns false'. Refute it at one input. -/
def lawS5232CScriptWrong : ChangeSpec := { name := "lawS5232CScript", fn := fun _ => fun
  | [d1, d2, d3] => { results := [.lit (.bool false)], args := [d1, d2, d3] }
  | _ => none }
def LawS5232CScriptWrongFalsely : Prop := lawS5232CScriptRow.holds Yba.pinned (OpenSpec.ofChange lawS5232CScriptWrong)

end Rows
end Go.Proofs.Ybulkddig
