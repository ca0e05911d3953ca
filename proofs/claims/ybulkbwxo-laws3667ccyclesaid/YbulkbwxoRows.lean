/-
  No cell of these rows narrows 'for every input' (looked for: loops, veiled, ifaces, maps, wideKeys, modest, calm, conditions, laid).
  DERIVED. THE GIVEN ROWS OF THIS SEAT. 2 by the template 'for every input the law returns true; each argument reads behind the call as it read before'; 0 by the template 'total and deterministic' (their statements: YbulkbwxoTotals.lean).
  GIVEN WITH THE SEED: the statements are not yours to turn. If you find one false, say at which input.
  Laid BY PROGRAM, IN A SANDBOX (cutbox-rows.mjs): the forced cells as the released guide's own fill.sh prints them over the translation 6fb2e7e778a939c3… (all of the seat's roots in one cut). By AI agents, Wed Nov 11 2026. No macro, syntax, notation, axiom, sorry.
-/
import Derived.Test.YbulkbwxoChecked
import GoSem.Claim
import GoSem.ClaimJoined
import GoSem.ClaimMapViews
import Derived.JoinedTies
import Derived.KernelRfl
namespace Go.Proofs.Ybulkbwxo
/- THE CELL 'sum', in the pinned program and in every row, IS THE sha256 OF THE DUMP (.gsa) THAT YbulkbwxoProg.lean LOADS. Nothing in Lean hashes anything: it is a label: what it is worth is what the hold of that sum in a sandbox is worth. -/
noncomputable def Yba.pinned : Pinned := { name := "ybulkbwxo", sum := "6fb2e7e778a939c32fb32395c519bb1157f9676d515668ebc41820365346f938", checked := Yba.checked }
namespace Rows
def none {H : Type} : Left H := { results := [], args := [] }

/-- 'diligent-drain.LawS3667CStops': WHATEVER THE INPUT: true; the input reads as it did. -/
def lawS3667CStopsSpec : ChangeSpec := { name := "lawS3667CStops", fn := fun _ => fun
  | [d1, d2, d3] => { results := [.lit (.bool true)], args := [d1, d2, d3] }
  | _ => none }
def lawS3667CStopsRow : OpenClaim := { program := "ybulkbwxo", sum := "6fb2e7e778a939c32fb32395c519bb1157f9676d515668ebc41820365346f938", func := "example.com/diligent-drain/diligent-drain.LawS3667CStops", spec := "lawS3667CStops", inPlace := ["(*internal/sync.Mutex).Lock", "internal/race.Disable", "sync/atomic.CompareAndSwapInt32", "internal/race.Enable", "internal/race.Acquire", "(*internal/sync.Mutex).lockSlow", "internal/sync.runtime_canSpin", "internal/sync.runtime_doSpin", "internal/sync.throw", "internal/sync.runtime_nanotime", "internal/sync.runtime_SemacquireMutex", "sync/atomic.AddInt32", "(*internal/sync.Mutex).Unlock", "internal/race.ReleaseMerge", "(*internal/sync.Mutex).unlockSlow", "internal/sync.fatal", "internal/sync.runtime_Semrelease", "(*internal/sync.Mutex).TryLock"], apart := false }
def LawS3667CStopsSaid : Prop := lawS3667CStopsRow.holds Yba.pinned (OpenSpec.ofChange lawS3667CStopsSpec)

/-- ITS FALSE NEIGHBOUR: 'it returns false'. Refute it at one input. -/
def lawS3667CStopsWrong : ChangeSpec := { name := "lawS3667CStops", fn := fun _ => fun
  | [d1, d2, d3] => { results := [.lit (.bool false)], args := [d1, d2, d3] }
  | _ => none }
def LawS3667CStopsWrongFalsely : Prop := lawS3667CStopsRow.holds Yba.pinned (OpenSpec.ofChange lawS3667CStopsWrong)

/-- 'diligent-drain.LawS3667CCycle': WHATEVER THE INPUT: true; the input reads as it did. -/
def lawS3667CCycleSpec : ChangeSpec := { name := "lawS3667CCycle", fn := fun _ => fun
  | [d] => { results := [.lit (.bool true)], args := [d] }
  | _ => none }
def lawS3667CCycleRow : OpenClaim := { program := "ybulkbwxo", sum := "6fb2e7e778a939c32fb32395c519bb1157f9676d515668ebc41820365346f938", func := "example.com/diligent-drain/diligent-drain.LawS3667CCycle", spec := "lawS3667CCycle", inPlace := ["(*internal/sync.Mutex).Lock", "internal/race.Disable", "sync/atomic.CompareAndSwapInt32", "internal/race.Enable", "internal/race.Acquire", "(*internal/sync.Mutex).lockSlow", "internal/sync.runtime_canSpin", "internal/sync.runtime_doSpin", "internal/sync.throw", "internal/sync.runtime_nanotime", "internal/sync.runtime_SemacquireMutex", "sync/atomic.AddInt32", "(*internal/sync.Mutex).Unlock", "internal/race.ReleaseMerge", "(*internal/sync.Mutex).unlockSlow", "internal/sync.fatal", "internal/sync.runtime_Semrelease"], apart := false }
def LawS3667CCycleSaid : Prop := lawS3667CCycleRow.holds Yba.pinned (OpenSpec.ofChange lawS3667CCycleSpec)

/-- ITS FALSE NEIGHBOUR: 'it returns false'. Refute it at one input. -/
def lawS3667CCycleWrong : ChangeSpec := { name := "lawS3667CCycle", fn := fun _ => fun
  | [d] => { results := [.lit (.bool false)], args := [d] }
  | _ => none }
def LawS3667CCycleWrongFalsely : Prop := lawS3667CCycleRow.holds Yba.pinned (OpenSpec.ofChange lawS3667CCycleWrong)

end Rows
end Go.Proofs.Ybulkbwxo
