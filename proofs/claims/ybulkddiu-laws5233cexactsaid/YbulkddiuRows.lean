/-
  No cell of these rows narrows 'for every input' (looked for: loops, veiled, ifaces, maps, wideKeys, modest, calm, conditions, laid).
  DERIVED. THE GIVEN ROWS OF THIS SEAT. 2 by the template 'for every input the law returns true; each argument reads behind the call as it read before'; 0 by the template 'total and deterministic' (their statements: YbulkddiuTotals.lean).
  GIVEN WITH THE SEED: the statements are not yours to turn. If you find one false, say at which input.
  Laid BY PROGRAM, IN A SANDBOX (cutbox-rows.mjs): the forced cells as the released guide's own fill.sh prints them over the translation 08e468bf689f1bb1… (all of the seat's roots in one cut). By AI agents, Wed Nov 11 2026. No macro, syntax, notation, axiom, sorry.
-/
import Derived.Test.YbulkddiuChecked
import GoSem.Claim
import GoSem.ClaimJoined
import GoSem.ClaimMapViews
import Derived.JoinedTies
import Derived.KernelRfl
namespace Go.Proofs.Ybulkddiu
/- THE CELL 'sum', in the pinned program and in every row, IS THE sha256 OF THE DUMP (.gsa) THAT YbulkddiuProg.lean LOADS. Nothing in Lean hashes anything: it is a label: what it is worth is what the hold of that sum in a sandbox is worth. -/
noncomputable def Yba.pinned : Pinned := { name := "ybulkddiu", sum := "08e468bf689f1bb16a8af17d8f3afeff8ccfc4d2a5b2d598ed597a9e281cbdde", checked := Yba.checked }
namespace Rows
def none {H : Type} : Left H := { results := [], args := [] }

/-- 'nix.LawS5233CExact': WHATEVER THE INPUT: true; the input reads as it did. -/
def lawS5233CExactSpec : ChangeSpec := { name := "lawS5233CExact", fn := fun _ => fun
  | [d1, d2] => { results := [.lit (.bool true)], args := [d1, d2] }
  | _ => none }
def lawS5233CExactRow : OpenClaim := { program := "ybulkddiu", sum := "08e468bf689f1bb16a8af17d8f3afeff8ccfc4d2a5b2d598ed597a9e281cbdde", func := "example.com/quotespan/quotespan/nix.LawS5233CExact", spec := "lawS5233CExact", apart := false }
def LawS5233CExactSaid : Prop := lawS5233CExactRow.holds Yba.pinned (OpenSpec.ofChange lawS5233CExactSpec)

/-- ITS FALSE NEIGHBOUR: 'it returns false'. Refute it at one input. -/
def lawS5233CExactWrong : ChangeSpec := { name := "lawS5233CExact", fn := fun _ => fun
  | [d1, d2] => { results := [.lit (.bool false)], args := [d1, d2] }
  | _ => none }
def LawS5233CExactWrongFalsely : Prop := lawS5233CExactRow.holds Yba.pinned (OpenSpec.ofChange lawS5233CExactWrong)

/-- 'nix.LawS5233CScript': WHATEVER THE INPUT: true; the input reads as it did. -/
def lawS5233CScriptSpec : ChangeSpec := { name := "lawS5233CScript", fn := fun _ => fun
  | [d] => { results := [.lit (.bool true)], args := [d] }
  | _ => none }
def lawS5233CScriptRow : OpenClaim := { program := "ybulkddiu", sum := "08e468bf689f1bb16a8af17d8f3afeff8ccfc4d2a5b2d598ed597a9e281cbdde", func := "example.com/quotespan/quotespan/nix.LawS5233CScript", spec := "lawS5233CScript", apart := false }
def LawS5233CScriptSaid : Prop := lawS5233CScriptRow.holds Yba.pinned (OpenSpec.ofChange lawS5233CScriptSpec)

/-- ITS FALSE NEIGHBOUR: 'it returns false'. Refute it at one input. -/
def lawS5233CScriptWrong : ChangeSpec := { name := "lawS5233CScript", fn := fun _ => fun
  | [d] => { results := [.lit (.bool false)], args := [d] }
  | _ => none }
def LawS5233CScriptWrongFalsely : Prop := lawS5233CScriptRow.holds Yba.pinned (OpenSpec.ofChange lawS5233CScriptWrong)

end Rows
end Go.Proofs.Ybulkddiu
