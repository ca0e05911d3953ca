/-
  DERIVED. GIVEN WITH THE SEED: THE CARDS: each row of YbulkbwwmFmtRows.lean that lists a variable, with what it lists TIED to the program's text (the seventh form; the later family's looks); each row that meets fmt, with fmt's text TOLD by the authors' own Lean function (tested against real Go, not proved from fmt's source: count such statements apart). THE CARD IS WHAT COUNTS. Prove the row's statement (the work); the ties are given (YbulkbwwmFmtTie.lean); close each card by the builder's one call (the guide's Derived/Test/ToyasCard.lean, 'card_holds'). Laid BY PROGRAM, IN A SANDBOX (cutbox-door.mjs). By AI agents, Wed Nov 11 2026. No macro, syntax, notation, axiom, sorry.
-/
import Derived.Test.YbulkbwwmFmtRows
import GoSem.ClaimSeven
namespace Go.Proofs.YbulkbwwmFmt
namespace Rows

/-- THE TOLD CARD OF 'core.LawS3665AStep'. -/
def lawS3665AStepCard : Claim7 := { stood := { row := lawS3665AStepRow, standIns := [], harness := (true, "2f819b4dce5e41d1af1be001faa9067e367755c73f81ab887468f83b86fb239b"), looks := true }, told := true, goes := false }
def LawS3665AStepToldSaid : Prop := Claim7.holds Ybaf.pinned (.plain (OpenSpec.ofChange lawS3665AStepSpec)) lawS3665AStepCard
/-- ITS FALSE NEIGHBOUR. Refute it at one input. -/
def LawS3665AStepToldWrongFalsely : Prop := Claim7.holds Ybaf.pinned (.plain (OpenSpec.ofChange lawS3665AStepWrong)) lawS3665AStepCard

/-- THE TOLD CARD OF 'codec.LawS3665BDecode'. -/
def lawS3665BDecodeCard : Claim7 := { stood := { row := lawS3665BDecodeRow, standIns := [], harness := (true, "2f819b4dce5e41d1af1be001faa9067e367755c73f81ab887468f83b86fb239b"), looks := true }, told := true, goes := false }
def LawS3665BDecodeToldSaid : Prop := Claim7.holds Ybaf.pinned (.plain (OpenSpec.ofChange lawS3665BDecodeSpec)) lawS3665BDecodeCard
/-- ITS FALSE NEIGHBOUR. Refute it at one input. -/
def LawS3665BDecodeToldWrongFalsely : Prop := Claim7.holds Ybaf.pinned (.plain (OpenSpec.ofChange lawS3665BDecodeWrong)) lawS3665BDecodeCard

/-- THE TOLD CARD OF 'codec.LawS3665BRoundTrip'. -/
def lawS3665BRoundTripCard : Claim7 := { stood := { row := lawS3665BRoundTripRow, standIns := [], harness := (true, "2f819b4dce5e41d1af1be001faa9067e367755c73f81ab887468f83b86fb239b"), looks := true }, told := true, goes := false }
def LawS3665BRoundTripToldSaid : Prop := Claim7.holds Ybaf.pinned (.plain (OpenSpec.ofChange lawS3665BRoundTripSpec)) lawS3665BRoundTripCard
/-- ITS FALSE NEIGHBOUR. Refute it at one input. -/
def LawS3665BRoundTripToldWrongFalsely : Prop := Claim7.holds Ybaf.pinned (.plain (OpenSpec.ofChange lawS3665BRoundTripWrong)) lawS3665BRoundTripCard
end Rows
end Go.Proofs.YbulkbwwmFmt
