/-
  No cell of these rows narrows 'for every input' (looked for: loops, veiled, ifaces, maps, wideKeys, modest, calm, conditions, laid).
  DERIVED. THE GIVEN ROWS OF THIS SEAT. 3 by the template 'for every input the law returns true; each argument reads behind the call as it read before'; 0 by the template 'total and deterministic' (their statements: YbulkbwwmFmtTotals.lean).
  GIVEN WITH THE SEED: the statements are not yours to turn. If you find one false, say at which input.
  Laid BY PROGRAM, IN A SANDBOX (cutbox-rows.mjs): the forced cells as the released guide's own fill.sh prints them over the translation fa6f80722c845c69… (all of the seat's roots in one cut). By AI agents, Wed Nov 11 2026. No macro, syntax, notation, axiom, sorry.
-/
import Derived.Test.YbulkbwwmFmtChecked
import GoSem.Claim
import GoSem.ClaimJoined
import GoSem.ClaimMapViews
import Derived.JoinedTies
import Derived.KernelRfl
namespace Go.Proofs.YbulkbwwmFmt
/- THE CELL 'sum', in the pinned program and in every row, IS THE sha256 OF THE DUMP (.gsa) THAT YbulkbwwmFmtProg.lean LOADS. Nothing in Lean hashes anything: it is a label: what it is worth is what the hold of that sum in a sandbox is worth. -/
noncomputable def Ybaf.pinned : Pinned := { name := "ybulkbwwmfmt", sum := "fa6f80722c845c6984a5afd87e8de8fae8acd7a581b3e19d8ff8562615371623", checked := Ybaf.checked }
namespace Rows
def none {H : Type} : Left H := { results := [], args := [] }

/-- 'core.LawS3665AStep': WHATEVER THE INPUT: true; the input reads as it did. -/
def lawS3665AStepSpec : ChangeSpec := { name := "lawS3665AStep", fn := fun _ => fun
  | [d1, d2, d3, d4] => { results := [.lit (.bool true)], args := [d1, d2, d3, d4] }
  | _ => none }
def lawS3665AStepRow : OpenClaim := { program := "ybulkbwwmfmt", sum := "fa6f80722c845c6984a5afd87e8de8fae8acd7a581b3e19d8ff8562615371623", func := "example.com/quorumproof/quorumproof/internal/core.LawS3665AStep", spec := "lawS3665AStep", stops := ["fmt.errorf"], inPlace := ["fmt.errorf", "maps.clone"], unfollowed := true, recurses := true, apart := false }
/-- NO THEOREM (fmt's text is open here; it may be false): for the released tool's asking of the row's closed facts alone. THE STATEMENT IS 'LawS3665AStepToldSaid' (YbulkbwwmFmtCards.lean). -/
def LawS3665AStepFormAsk : Prop := lawS3665AStepRow.holds Ybaf.pinned (OpenSpec.ofChange lawS3665AStepSpec)

/-- ITS FALSE NEIGHBOUR: 'it returns false'. Refute it at one input. -/
def lawS3665AStepWrong : ChangeSpec := { name := "lawS3665AStep", fn := fun _ => fun
  | [d1, d2, d3, d4] => { results := [.lit (.bool false)], args := [d1, d2, d3, d4] }
  | _ => none }
def LawS3665AStepWrongFormAsk : Prop := lawS3665AStepRow.holds Ybaf.pinned (OpenSpec.ofChange lawS3665AStepWrong)

/-- 'codec.LawS3665BDecode': WHATEVER THE INPUT: true; the input reads as it did. -/
def lawS3665BDecodeSpec : ChangeSpec := { name := "lawS3665BDecode", fn := fun _ => fun
  | [d1, d2] => { results := [.lit (.bool true)], args := [d1, d2] }
  | _ => none }
def lawS3665BDecodeRow : OpenClaim := { program := "ybulkbwwmfmt", sum := "fa6f80722c845c6984a5afd87e8de8fae8acd7a581b3e19d8ff8562615371623", func := "example.com/quorumproof/quorumproof/internal/codec.LawS3665BDecode", spec := "lawS3665BDecode", stops := ["fmt.errorf"], inPlace := ["fmt.errorf"], apart := false }
/-- NO THEOREM (fmt's text is open here; it may be false): for the released tool's asking of the row's closed facts alone. THE STATEMENT IS 'LawS3665BDecodeToldSaid' (YbulkbwwmFmtCards.lean). -/
def LawS3665BDecodeFormAsk : Prop := lawS3665BDecodeRow.holds Ybaf.pinned (OpenSpec.ofChange lawS3665BDecodeSpec)

/-- ITS FALSE NEIGHBOUR: 'it returns false'. Refute it at one input. -/
def lawS3665BDecodeWrong : ChangeSpec := { name := "lawS3665BDecode", fn := fun _ => fun
  | [d1, d2] => { results := [.lit (.bool false)], args := [d1, d2] }
  | _ => none }
def LawS3665BDecodeWrongFormAsk : Prop := lawS3665BDecodeRow.holds Ybaf.pinned (OpenSpec.ofChange lawS3665BDecodeWrong)

/-- 'codec.LawS3665BRoundTrip': WHATEVER THE INPUT: true; the input reads as it did. -/
def lawS3665BRoundTripSpec : ChangeSpec := { name := "lawS3665BRoundTrip", fn := fun _ => fun
  | [d1, d2] => { results := [.lit (.bool true)], args := [d1, d2] }
  | _ => none }
def lawS3665BRoundTripRow : OpenClaim := { program := "ybulkbwwmfmt", sum := "fa6f80722c845c6984a5afd87e8de8fae8acd7a581b3e19d8ff8562615371623", func := "example.com/quorumproof/quorumproof/internal/codec.LawS3665BRoundTrip", spec := "lawS3665BRoundTrip", stops := ["fmt.errorf"], inPlace := ["fmt.errorf"], apart := false }
/-- NO THEOREM (fmt's text is open here; it may be false): for the released tool's asking of the row's closed facts alone. THE STATEMENT IS 'LawS3665BRoundTripToldSaid' (YbulkbwwmFmtCards.lean). -/
def LawS3665BRoundTripFormAsk : Prop := lawS3665BRoundTripRow.holds Ybaf.pinned (OpenSpec.ofChange lawS3665BRoundTripSpec)

/-- ITS FALSE NEIGHBOUR: 'it returns false'. Refute it at one input. -/
def lawS3665BRoundTripWrong : ChangeSpec := { name := "lawS3665BRoundTrip", fn := fun _ => fun
  | [d1, d2] => { results := [.lit (.bool false)], args := [d1, d2] }
  | _ => none }
def LawS3665BRoundTripWrongFormAsk : Prop := lawS3665BRoundTripRow.holds Ybaf.pinned (OpenSpec.ofChange lawS3665BRoundTripWrong)

end Rows
end Go.Proofs.YbulkbwwmFmt
