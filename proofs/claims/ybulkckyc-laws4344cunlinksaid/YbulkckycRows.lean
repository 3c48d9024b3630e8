/-
  No cell of these rows narrows 'for every input' (looked for: loops, veiled, ifaces, maps, wideKeys, modest, calm, conditions, laid).
  DERIVED. THE GIVEN ROWS OF THIS SEAT. 2 by the template 'for every input the law returns true; each argument reads behind the call as it read before'; 0 by the template 'total and deterministic' (their statements: YbulkckycTotals.lean).
  GIVEN WITH THE SEED: the statements are not yours to turn. If you find one false, say at which input.
  Laid BY PROGRAM, IN A SANDBOX (cutbox-rows.mjs): the forced cells as the released guide's own fill.sh prints them over the translation 01fe22ef442fede2… (all of the seat's roots in one cut). By AI agents, Wed Nov 11 2026. No macro, syntax, notation, axiom, sorry.
-/
import Derived.Test.YbulkckycChecked
import GoSem.Claim
import GoSem.ClaimJoined
import GoSem.ClaimMapViews
import Derived.JoinedTies
import Derived.KernelRfl
namespace Go.Proofs.Ybulkckyc
/- THE CELL 'sum', in the pinned program and in every row, IS THE sha256 OF THE DUMP (.gsa) THAT YbulkckycProg.lean LOADS. Nothing in Lean hashes anything: it is a label: what it is worth is what the hold of that sum in a sandbox is worth. -/
noncomputable def Yba.pinned : Pinned := { name := "ybulkckyc", sum := "01fe22ef442fede2d1320f7bc89af9da4ccffcebdf4f83a592e73508cb7499e5", checked := Yba.checked }
namespace Rows
def none {H : Type} : Left H := { results := [], args := [] }

/-- 'cascade.LawS4344CEnded': WHATEVER THE INPUT: true; the input reads as it did. -/
def lawS4344CEndedSpec : ChangeSpec := { name := "lawS4344CEnded", fn := fun _ => fun
  | [d1, d2, d3, d4, d5] => { results := [.lit (.bool true)], args := [d1, d2, d3, d4, d5] }
  | _ => none }
def lawS4344CEndedRow : OpenClaim := { program := "ybulkckyc", sum := "01fe22ef442fede2d1320f7bc89af9da4ccffcebdf4f83a592e73508cb7499e5", func := "example.com/cascade/cascade.LawS4344CEnded", spec := "lawS4344CEnded", inPlace := ["(*internal/sync.Mutex).Lock", "internal/race.Disable", "sync/atomic.CompareAndSwapInt32", "internal/race.Enable", "internal/race.Acquire", "(*internal/sync.Mutex).lockSlow", "internal/sync.runtime_canSpin", "internal/sync.runtime_doSpin", "internal/sync.throw", "internal/sync.runtime_nanotime", "internal/sync.runtime_SemacquireMutex", "sync/atomic.AddInt32", "(*internal/sync.Mutex).Unlock", "internal/race.ReleaseMerge", "(*internal/sync.Mutex).unlockSlow", "internal/sync.fatal", "internal/sync.runtime_Semrelease"], unfollowed := true, recurses := true, named := ["math/bits.divideError", "math/bits.overflowError"], apart := false }
def LawS4344CEndedSaid : Prop := lawS4344CEndedRow.holds Yba.pinned (OpenSpec.ofChange lawS4344CEndedSpec)

/-- ITS FALSE NEIGHBOUR: 'it returns false'. Refute it at one input. -/
def lawS4344CEndedWrong : ChangeSpec := { name := "lawS4344CEnded", fn := fun _ => fun
  | [d1, d2, d3, d4, d5] => { results := [.lit (.bool false)], args := [d1, d2, d3, d4, d5] }
  | _ => none }
def LawS4344CEndedWrongFalsely : Prop := lawS4344CEndedRow.holds Yba.pinned (OpenSpec.ofChange lawS4344CEndedWrong)

/-- 'cascade.LawS4344CUnlink': WHATEVER THE INPUT: true; the input reads as it did. -/
def lawS4344CUnlinkSpec : ChangeSpec := { name := "lawS4344CUnlink", fn := fun _ => fun
  | [d1, d2] => { results := [.lit (.bool true)], args := [d1, d2] }
  | _ => none }
def lawS4344CUnlinkRow : OpenClaim := { program := "ybulkckyc", sum := "01fe22ef442fede2d1320f7bc89af9da4ccffcebdf4f83a592e73508cb7499e5", func := "example.com/cascade/cascade.LawS4344CUnlink", spec := "lawS4344CUnlink", inPlace := ["(*internal/sync.Mutex).Lock", "internal/race.Disable", "sync/atomic.CompareAndSwapInt32", "internal/race.Enable", "internal/race.Acquire", "(*internal/sync.Mutex).lockSlow", "internal/sync.runtime_canSpin", "internal/sync.runtime_doSpin", "internal/sync.throw", "internal/sync.runtime_nanotime", "internal/sync.runtime_SemacquireMutex", "sync/atomic.AddInt32", "(*internal/sync.Mutex).Unlock", "internal/race.ReleaseMerge", "(*internal/sync.Mutex).unlockSlow", "internal/sync.fatal", "internal/sync.runtime_Semrelease"], unfollowed := true, recurses := true, named := ["math/bits.divideError", "math/bits.overflowError"], apart := false }
def LawS4344CUnlinkSaid : Prop := lawS4344CUnlinkRow.holds Yba.pinned (OpenSpec.ofChange lawS4344CUnlinkSpec)

/-- ITS FALSE NEIGHBOUR: 'it returns false'. Refute it at one input. -/
def lawS4344CUnlinkWrong : ChangeSpec := { name := "lawS4344CUnlink", fn := fun _ => fun
  | [d1, d2] => { results := [.lit (.bool false)], args := [d1, d2] }
  | _ => none }
def LawS4344CUnlinkWrongFalsely : Prop := lawS4344CUnlinkRow.holds Yba.pinned (OpenSpec.ofChange lawS4344CUnlinkWrong)

end Rows
end Go.Proofs.Ybulkckyc
