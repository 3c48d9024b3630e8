/-
  No cell of these rows narrows 'for every input' (looked for: loops, veiled, ifaces, maps, wideKeys, modest, calm, conditions, laid).
  DERIVED. THE GIVEN ROWS OF THIS SEAT. 4 by the template 'for every input the law returns true; each argument reads behind the call as it read before'; 0 by the template 'total and deterministic' (their statements: YbulkckssTotals.lean).
  GIVEN WITH THE SEED: the statements are not yours to turn. If you find one false, say at which input.
  Laid BY PROGRAM, IN A SANDBOX (cutbox-rows.mjs): the forced cells as the released guide's own fill.sh prints them over the translation 091dbedd57823075… (all of the seat's roots in one cut). By AI agents, Wed Nov 11 2026. No macro, syntax, notation, axiom, sorry.
-/
import Derived.Test.YbulkckssChecked
import GoSem.Claim
import GoSem.ClaimJoined
import GoSem.ClaimMapViews
import Derived.JoinedTies
import Derived.KernelRfl
namespace Go.Proofs.Ybulkckss
/- THE CELL 'sum', in the pinned program and in every row, IS THE sha256 OF THE DUMP (.gsa) THAT YbulkckssProg.lean LOADS. Nothing in Lean hashes anything: it is a label: what it is worth is what the hold of that sum in a sandbox is worth. -/
noncomputable def Yba.pinned : Pinned := { name := "ybulkckss", sum := "091dbedd5782307555a61310a641e94e28651c016966b5f1c757c1c5a5a55288", checked := Yba.checked }
namespace Rows
def none {H : Type} : Left H := { results := [], args := [] }

/-- 'pathsieve.LawS4334AModel': WHATEVER THE INPUT: true; the input reads as it did. -/
def lawS4334AModelSpec : ChangeSpec := { name := "lawS4334AModel", fn := fun _ => fun
  | [d] => { results := [.lit (.bool true)], args := [d] }
  | _ => none }
def lawS4334AModelRow : OpenClaim := { program := "ybulkckss", sum := "091dbedd5782307555a61310a641e94e28651c016966b5f1c757c1c5a5a55288", func := "example.com/pathsieve/pathsieve.LawS4334AModel", spec := "lawS4334AModel", apart := false }
def LawS4334AModelSaid : Prop := lawS4334AModelRow.holds Yba.pinned (OpenSpec.ofChange lawS4334AModelSpec)

/-- ITS FALSE NEIGHBOUR: 'it returns false'. Refute it at one input. -/
def lawS4334AModelWrong : ChangeSpec := { name := "lawS4334AModel", fn := fun _ => fun
  | [d] => { results := [.lit (.bool false)], args := [d] }
  | _ => none }
def LawS4334AModelWrongFalsely : Prop := lawS4334AModelRow.holds Yba.pinned (OpenSpec.ofChange lawS4334AModelWrong)

/-- 'pathsieve.LawS4334ASetBit': WHATEVER THE INPUT: true; the input reads as it did. -/
def lawS4334ASetBitSpec : ChangeSpec := { name := "lawS4334ASetBit", fn := fun _ => fun
  | [d1, d2, d3] => { results := [.lit (.bool true)], args := [d1, d2, d3] }
  | _ => none }
def lawS4334ASetBitRow : OpenClaim := { program := "ybulkckss", sum := "091dbedd5782307555a61310a641e94e28651c016966b5f1c757c1c5a5a55288", func := "example.com/pathsieve/pathsieve.LawS4334ASetBit", spec := "lawS4334ASetBit", apart := false }
def LawS4334ASetBitSaid : Prop := lawS4334ASetBitRow.holds Yba.pinned (OpenSpec.ofChange lawS4334ASetBitSpec)

/-- ITS FALSE NEIGHBOUR: 'it returns false'. Refute it at one input. -/
def lawS4334ASetBitWrong : ChangeSpec := { name := "lawS4334ASetBit", fn := fun _ => fun
  | [d1, d2, d3] => { results := [.lit (.bool false)], args := [d1, d2, d3] }
  | _ => none }
def LawS4334ASetBitWrongFalsely : Prop := lawS4334ASetBitRow.holds Yba.pinned (OpenSpec.ofChange lawS4334ASetBitWrong)

/-- 'pathsieve.LawS4334BLongestEnd': WHATEVER THE INPUT: true; the input reads as it did. -/
def lawS4334BLongestEndSpec : ChangeSpec := { name := "lawS4334BLongestEnd", fn := fun _ => fun
  | [d1, d2] => { results := [.lit (.bool true)], args := [d1, d2] }
  | _ => none }
def lawS4334BLongestEndRow : OpenClaim := { program := "ybulkckss", sum := "091dbedd5782307555a61310a641e94e28651c016966b5f1c757c1c5a5a55288", func := "example.com/pathsieve/pathsieve.LawS4334BLongestEnd", spec := "lawS4334BLongestEnd", inPlace := ["internal/bytealg.abigen_runtime_cmpstring"], unfollowed := true, recurses := true, apart := false }
def LawS4334BLongestEndSaid : Prop := lawS4334BLongestEndRow.holds Yba.pinned (OpenSpec.ofChange lawS4334BLongestEndSpec)

/-- ITS FALSE NEIGHBOUR: 'it returns false'. Refute it at one input. -/
def lawS4334BLongestEndWrong : ChangeSpec := { name := "lawS4334BLongestEnd", fn := fun _ => fun
  | [d1, d2] => { results := [.lit (.bool false)], args := [d1, d2] }
  | _ => none }
def LawS4334BLongestEndWrongFalsely : Prop := lawS4334BLongestEndRow.holds Yba.pinned (OpenSpec.ofChange lawS4334BLongestEndWrong)

/-- 'pathsieve.LawS4334BDenseAgrees': WHATEVER THE INPUT: true; the input reads as it did. -/
def lawS4334BDenseAgreesSpec : ChangeSpec := { name := "lawS4334BDenseAgrees", fn := fun _ => fun
  | [d1, d2, d3] => { results := [.lit (.bool true)], args := [d1, d2, d3] }
  | _ => none }
def lawS4334BDenseAgreesRow : OpenClaim := { program := "ybulkckss", sum := "091dbedd5782307555a61310a641e94e28651c016966b5f1c757c1c5a5a55288", func := "example.com/pathsieve/pathsieve.LawS4334BDenseAgrees", spec := "lawS4334BDenseAgrees", inPlace := ["internal/bytealg.abigen_runtime_cmpstring"], unfollowed := true, recurses := true, apart := false }
def LawS4334BDenseAgreesSaid : Prop := lawS4334BDenseAgreesRow.holds Yba.pinned (OpenSpec.ofChange lawS4334BDenseAgreesSpec)

/-- ITS FALSE NEIGHBOUR: 'it returns false'. Refute it at one input. -/
def lawS4334BDenseAgreesWrong : ChangeSpec := { name := "lawS4334BDenseAgrees", fn := fun _ => fun
  | [d1, d2, d3] => { results := [.lit (.bool false)], args := [d1, d2, d3] }
  | _ => none }
def LawS4334BDenseAgreesWrongFalsely : Prop := lawS4334BDenseAgreesRow.holds Yba.pinned (OpenSpec.ofChange lawS4334BDenseAgreesWrong)

end Rows
end Go.Proofs.Ybulkckss
