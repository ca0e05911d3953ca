/-
  No cell of these rows narrows 'for every input' (looked for: loops, veiled, ifaces, maps, wideKeys, modest, calm, conditions, laid).
  DERIVED. THE GIVEN ROWS OF THIS SEAT. 1 by the template 'for every input the law returns true; each argument reads behind the call as it read before'; 0 by the template 'total and deterministic' (their statements: YbulkbxauTotals.lean).
  GIVEN WITH THE SEED: the statements are not yours to turn. If you find one false, say at which input.
  Laid BY PROGRAM, IN A SANDBOX (cutbox-rows.mjs): the forced cells as the released guide's own fill.sh prints them over the translation b469f29a51c9bbc3… (all of the seat's roots in one cut). By AI agents, Wed Nov 11 2026. No macro, syntax, notation, axiom, sorry.
-/
import Derived.Test.YbulkbxauChecked
import GoSem.Claim
import GoSem.ClaimJoined
import GoSem.ClaimMapViews
import Derived.JoinedTies
import Derived.KernelRfl
namespace Go.Proofs.Ybulkbxau
/- THE CELL 'sum', in the pinned program and in every row, IS THE sha256 OF THE DUMP (.gsa) THAT YbulkbxauProg.lean LOADS. Nothing in Lean hashes anything: it is a label: what it is worth is what the hold of that sum in a sandbox is worth. -/
noncomputable def Yba.pinned : Pinned := { name := "ybulkbxau", sum := "b469f29a51c9bbc37535d0b2dd18e5ec96f516130b7e636de72f3608b8421d4e", checked := Yba.checked }
namespace Rows
def none {H : Type} : Left H := { results := [], args := [] }

/-- 'treeline.LawS3673ALayout': WHATEVER THE INPUT: true; the input reads as it did. -/
def lawS3673ALayoutSpec : ChangeSpec := { name := "lawS3673ALayout", fn := fun _ => fun
  | [d1, d2, d3, d4] => { results := [.lit (.bool true)], args := [d1, d2, d3, d4] }
  | _ => none }
def lawS3673ALayoutRow : OpenClaim := { program := "ybulkbxau", sum := "b469f29a51c9bbc37535d0b2dd18e5ec96f516130b7e636de72f3608b8421d4e", func := "example.com/treeline/treeline.LawS3673ALayout", spec := "lawS3673ALayout", apart := false }
def LawS3673ALayoutSaid : Prop := lawS3673ALayoutRow.holds Yba.pinned (OpenSpec.ofChange lawS3673ALayoutSpec)

/-- ITS FALSE NEIGHBOUR: 'it returns false'. Refute it at one input. -/
def lawS3673ALayoutWrong : ChangeSpec := { name := "lawS3673ALayout", fn := fun _ => fun
  | [d1, d2, d3, d4] => { results := [.lit (.bool false)], args := [d1, d2, d3, d4] }
  | _ => none }
def LawS3673ALayoutWrongFalsely : Prop := lawS3673ALayoutRow.holds Yba.pinned (OpenSpec.ofChange lawS3673ALayoutWrong)

end Rows
end Go.Proofs.Ybulkbxau
