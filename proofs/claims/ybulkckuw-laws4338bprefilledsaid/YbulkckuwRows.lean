/-
  No cell of these rows narrows 'for every input' (looked for: loops, veiled, ifaces, maps, wideKeys, modest, calm, conditions, laid).
  DERIVED. THE GIVEN ROWS OF THIS SEAT. 2 by the template 'for every input the law returns true; each argument reads behind the call as it read before'; 0 by the template 'total and deterministic' (their statements: YbulkckuwTotals.lean).
  GIVEN WITH THE SEED: the statements are not yours to turn. If you find one false, say at which input.
  Laid BY PROGRAM, IN A SANDBOX (cutbox-rows.mjs): the forced cells as the released guide's own fill.sh prints them over the translation e85cd1b1426ad4ac… (all of the seat's roots in one cut). By AI agents, Wed Nov 11 2026. No macro, syntax, notation, axiom, sorry.
-/
import Derived.Test.YbulkckuwChecked
import GoSem.Claim
import GoSem.ClaimJoined
import GoSem.ClaimMapViews
import Derived.JoinedTies
import Derived.KernelRfl
namespace Go.Proofs.Ybulkckuw
/- THE CELL 'sum', in the pinned program and in every row, IS THE sha256 OF THE DUMP (.gsa) THAT YbulkckuwProg.lean LOADS. Nothing in Lean hashes anything: it is a label: what it is worth is what the hold of that sum in a sandbox is worth. -/
noncomputable def Yba.pinned : Pinned := { name := "ybulkckuw", sum := "e85cd1b1426ad4ac1643b577f9d7688ad669fe868b9b758275c6869f7059d9d3", checked := Yba.checked }
namespace Rows
def none {H : Type} : Left H := { results := [], args := [] }

/-- 'describe.LawS4338BScript': WHATEVER THE INPUT: true; the input reads as it did. -/
def lawS4338BScriptSpec : ChangeSpec := { name := "lawS4338BScript", fn := fun _ => fun
  | [d] => { results := [.lit (.bool true)], args := [d] }
  | _ => none }
def lawS4338BScriptRow : OpenClaim := { program := "ybulkckuw", sum := "e85cd1b1426ad4ac1643b577f9d7688ad669fe868b9b758275c6869f7059d9d3", func := "example.com/keen-params/keen-params/describe.LawS4338BScript", spec := "lawS4338BScript", plainKeys := false, apart := false }
def LawS4338BScriptSaid : Prop := lawS4338BScriptRow.holds Yba.pinned (OpenSpec.ofChange lawS4338BScriptSpec)

/-- ITS FALSE NEIGHBOUR: 'it returns false'. Refute it at one input. -/
def lawS4338BScriptWrong : ChangeSpec := { name := "lawS4338BScript", fn := fun _ => fun
  | [d] => { results := [.lit (.bool false)], args := [d] }
  | _ => none }
def LawS4338BScriptWrongFalsely : Prop := lawS4338BScriptRow.holds Yba.pinned (OpenSpec.ofChange lawS4338BScriptWrong)

/-- 'describe.LawS4338BPrefilled': WHATEVER THE INPUT: true; the input reads as it did. -/
def lawS4338BPrefilledSpec : ChangeSpec := { name := "lawS4338BPrefilled", fn := fun _ => fun
  | [d1, d2] => { results := [.lit (.bool true)], args := [d1, d2] }
  | _ => none }
def lawS4338BPrefilledRow : OpenClaim := { program := "ybulkckuw", sum := "e85cd1b1426ad4ac1643b577f9d7688ad669fe868b9b758275c6869f7059d9d3", func := "example.com/keen-params/keen-params/describe.LawS4338BPrefilled", spec := "lawS4338BPrefilled", plainKeys := false, apart := false }
def LawS4338BPrefilledSaid : Prop := lawS4338BPrefilledRow.holds Yba.pinned (OpenSpec.ofChange lawS4338BPrefilledSpec)

/-- ITS FALSE NEIGHBOUR: 'it returns false'. Refute it at one input. -/
def lawS4338BPrefilledWrong : ChangeSpec := { name := "lawS4338BPrefilled", fn := fun _ => fun
  | [d1, d2] => { results := [.lit (.bool false)], args := [d1, d2] }
  | _ => none }
def LawS4338BPrefilledWrongFalsely : Prop := lawS4338BPrefilledRow.holds Yba.pinned (OpenSpec.ofChange lawS4338BPrefilledWrong)

end Rows
end Go.Proofs.Ybulkckuw
