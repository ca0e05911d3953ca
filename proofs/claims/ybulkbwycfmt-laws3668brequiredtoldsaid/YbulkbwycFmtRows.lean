/-
  No cell of these rows narrows 'for every input' (looked for: loops, veiled, ifaces, maps, wideKeys, modest, calm, conditions, laid).
  DERIVED. THE GIVEN ROWS OF THIS SEAT. 1 by the template 'for every input the law returns true; each argument reads behind the call as it read before'; 0 by the template 'total and deterministic' (their statements: YbulkbwycFmtTotals.lean).
  GIVEN WITH THE SEED: the statements are not yours to turn. If you find one false, say at which input.
  Laid BY PROGRAM, IN A SANDBOX (cutbox-rows.mjs): the forced cells as the released guide's own fill.sh prints them over the translation ba6f6964e1364ede… (all of the seat's roots in one cut). By AI agents, Wed Nov 11 2026. No macro, syntax, notation, axiom, sorry.
-/
import Derived.Test.YbulkbwycFmtChecked
import GoSem.Claim
import GoSem.ClaimJoined
import GoSem.ClaimMapViews
import Derived.JoinedTies
import Derived.KernelRfl
namespace Go.Proofs.YbulkbwycFmt
/- THE CELL 'sum', in the pinned program and in every row, IS THE sha256 OF THE DUMP (.gsa) THAT YbulkbwycFmtProg.lean LOADS. Nothing in Lean hashes anything: it is a label: what it is worth is what the hold of that sum in a sandbox is worth. -/
noncomputable def Ybaf.pinned : Pinned := { name := "ybulkbwycfmt", sum := "ba6f6964e1364ede6838c094d5dab6592fa55ebe060cbabdafa8f17c5b36c10d", checked := Ybaf.checked }
namespace Rows
def none {H : Type} : Left H := { results := [], args := [] }

/-- 'ap.LawS3668BRequired': WHATEVER THE INPUT: true; the input reads as it did. -/
def lawS3668BRequiredSpec : ChangeSpec := { name := "lawS3668BRequired", fn := fun _ => fun
  | [d1, d2, d3, d4, d5, d6, d7] => { results := [.lit (.bool true)], args := [d1, d2, d3, d4, d5, d6, d7] }
  | _ => none }
def lawS3668BRequiredRow : OpenClaim := { program := "ybulkbwycfmt", sum := "ba6f6964e1364ede6838c094d5dab6592fa55ebe060cbabdafa8f17c5b36c10d", func := "example.com/cairnlock/cairnlock/internal/ap.LawS3668BRequired", spec := "lawS3668BRequired", stops := ["fmt.errorf"], inPlace := ["fmt.errorf", "internal/reflectlite.TypeOf"], unfollowed := true, recurses := true, apart := false }
/-- NO THEOREM (fmt's text is open here; it may be false): for the released tool's asking of the row's closed facts alone. THE STATEMENT IS 'LawS3668BRequiredToldSaid' (YbulkbwycFmtCards.lean). -/
def LawS3668BRequiredFormAsk : Prop := lawS3668BRequiredRow.holds Ybaf.pinned (OpenSpec.ofChange lawS3668BRequiredSpec)

/-- ITS FALSE NEIGHBOUR: 'it returns false'. Refute it at one input. -/
def lawS3668BRequiredWrong : ChangeSpec := { name := "lawS3668BRequired", fn := fun _ => fun
  | [d1, d2, d3, d4, d5, d6, d7] => { results := [.lit (.bool false)], args := [d1, d2, d3, d4, d5, d6, d7] }
  | _ => none }
def LawS3668BRequiredWrongFormAsk : Prop := lawS3668BRequiredRow.holds Ybaf.pinned (OpenSpec.ofChange lawS3668BRequiredWrong)

end Rows
end Go.Proofs.YbulkbwycFmt
