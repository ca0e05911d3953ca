/-
  No cell of these rows narrows 'for every input' (looked for: loops, veiled, ifaces, maps, wideKeys, modest, calm, conditions, laid).
  DERIVED. THE GIVEN ROWS OF THIS SEAT. 1 by the template 'for every input the law returns true; each argument reads behind the call as it read before'; 0 by the template 'total and deterministic' (their statements: YbulkbwwmTotals.lean).
  GIVEN WITH THE SEED: the statements are not yours to turn. If you find one false, say at which input.
  Laid BY PROGRAM, IN A SANDBOX (cutbox-rows.mjs): the forced cells as the released guide's own fill.sh prints them over the translation 4b215c18bfd3026d… (all of the seat's roots in one cut). By AI agents, Wed Nov 11 2026. No macro, syntax, notation, axiom, sorry.
-/
import Derived.Test.YbulkbwwmChecked
import GoSem.Claim
import GoSem.ClaimJoined
import GoSem.ClaimMapViews
import Derived.JoinedTies
import Derived.KernelRfl
namespace Go.Proofs.Ybulkbwwm
/- THE CELL 'sum', in the pinned program and in every row, IS THE sha256 OF THE DUMP (.gsa) THAT YbulkbwwmProg.lean LOADS. Nothing in Lean hashes anything: it is a label: what it is worth is what the hold of that sum in a sandbox is worth. -/
noncomputable def Yba.pinned : Pinned := { name := "ybulkbwwm", sum := "4b215c18bfd3026d804072d3b6cc531b50ecfd6401627226057892bd87257705", checked := Yba.checked }
namespace Rows
def none {H : Type} : Left H := { results := [], args := [] }

/-- 'core.LawS3665ATake': WHATEVER THE INPUT: true; the input reads as it did. -/
def lawS3665ATakeSpec : ChangeSpec := { name := "lawS3665ATake", fn := fun _ => fun
  | [d1, d2, d3] => { results := [.lit (.bool true)], args := [d1, d2, d3] }
  | _ => none }
def lawS3665ATakeRow : OpenClaim := { program := "ybulkbwwm", sum := "4b215c18bfd3026d804072d3b6cc531b50ecfd6401627226057892bd87257705", func := "example.com/quorumproof/quorumproof/internal/core.LawS3665ATake", spec := "lawS3665ATake", apart := false }
def LawS3665ATakeSaid : Prop := lawS3665ATakeRow.holds Yba.pinned (OpenSpec.ofChange lawS3665ATakeSpec)

/-- ITS FALSE NEIGHBOUR: 'it returns false'. Refute it at one input. -/
def lawS3665ATakeWrong : ChangeSpec := { name := "lawS3665ATake", fn := fun _ => fun
  | [d1, d2, d3] => { results := [.lit (.bool false)], args := [d1, d2, d3] }
  | _ => none }
def LawS3665ATakeWrongFalsely : Prop := lawS3665ATakeRow.holds Yba.pinned (OpenSpec.ofChange lawS3665ATakeWrong)

end Rows
end Go.Proofs.Ybulkbwwm
