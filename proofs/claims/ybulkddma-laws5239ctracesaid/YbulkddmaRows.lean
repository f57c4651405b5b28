/-
  No cell of these rows narrows 'for every input' (looked for: loops, veiled, ifaces, maps, wideKeys, modest, calm, conditions, laid).
  DERIVED. THE GIVEN ROWS OF THIS SEAT. 1 by the template 'for every input the law returns true; each argument reads behind the call as it read before'; 0 by the template 'total and deterministic' (their statements: YbulkddmaTotals.lean).
  GIVEN WITH THE SEED: the statements are not yours to turn. If you find one false, say at which input.
  Laid BY PROGRAM, IN A SANDBOX (cutbox-rows.mjs): the forced cells as the released guide's own fill.sh prints them over the translation 3d5132418ab3706e… (all of the seat's roots in one cut). By AI agents, Wed Nov 11 2026. No macro, syntax, notation, axiom, sorry.
-/
import Derived.Test.YbulkddmaChecked
import GoSem.Claim
import GoSem.ClaimJoined
import GoSem.ClaimMapViews
import Derived.JoinedTies
import Derived.KernelRfl
namespace Go.Proofs.Ybulkddma
/- THE CELL 'sum', in the pinned program and in every row, IS THE sha256 OF THE DUMP (.gsa) THAT YbulkddmaProg.lean LOADS. Nothing in Lean hashes anything: it is a label: what it is worth is what the hold of that sum in a sandbox is worth. -/
noncomputable def Yba.pinned : Pinned := { name := "ybulkddma", sum := "3d5132418ab3706edd98d8bf9c10db0f6ff9e181d5949039c32656c7523d44c8", checked := Yba.checked }
namespace Rows
def none {H : Type} : Left H := { results := [], args := [] }

/-- 'download.LawS5239CTrace': WHATEVER THE INPUT: true; the input reads as it did. -/
def lawS5239CTraceSpec : ChangeSpec := { name := "lawS5239CTrace", fn := fun _ => fun
  | [d1, d2, d3] => { results := [.lit (.bool true)], args := [d1, d2, d3] }
  | _ => none }
def lawS5239CTraceRow : OpenClaim := { program := "ybulkddma", sum := "3d5132418ab3706edd98d8bf9c10db0f6ff9e181d5949039c32656c7523d44c8", func := "example.com/seine/seine/download.LawS5239CTrace", spec := "lawS5239CTrace", unfollowed := true, recurses := true, apart := false }
def LawS5239CTraceSaid : Prop := lawS5239CTraceRow.holds Yba.pinned (OpenSpec.ofChange lawS5239CTraceSpec)

/-- ITS FALSE NEIGHBOUR: 'it returns false'. Refute it at one input. -/
def lawS5239CTraceWrong : ChangeSpec := { name := "lawS5239CTrace", fn := fun _ => fun
  | [d1, d2, d3] => { results := [.lit (.bool false)], args := [d1, d2, d3] }
  | _ => none }
def LawS5239CTraceWrongFalsely : Prop := lawS5239CTraceRow.holds Yba.pinned (OpenSpec.ofChange lawS5239CTraceWrong)

end Rows
end Go.Proofs.Ybulkddma
