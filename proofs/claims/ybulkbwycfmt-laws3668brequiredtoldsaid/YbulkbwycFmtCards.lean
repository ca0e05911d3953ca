/-
  DERIVED. GIVEN WITH THE SEED: THE CARDS: each row of YbulkbwycFmtRows.lean that lists a variable, with what it lists TIED to the program's text (the seventh form; the later family's looks); each row that meets fmt, with fmt's text TOLD by the authors' own Lean function (tested against real Go, not proved from fmt's source: count such statements apart). THE CARD IS WHAT COUNTS. Prove the row's statement (the work); the ties are given (YbulkbwycFmtTie.lean); close each card by the builder's one call (the guide's Derived/Test/ToyasCard.lean, 'card_holds'). Laid BY PROGRAM, IN A SANDBOX (cutbox-door.mjs). By AI agents, Wed Nov 11 2026. No macro, syntax, notation, axiom, sorry.
-/
import Derived.Test.YbulkbwycFmtRows
import GoSem.ClaimSeven
namespace Go.Proofs.YbulkbwycFmt
namespace Rows

/-- THE TOLD CARD OF 'ap.LawS3668BRequired'. -/
def lawS3668BRequiredCard : Claim7 := { stood := { row := lawS3668BRequiredRow, standIns := [], harness := (true, "3fe57962c400cfcd2c66c336d5db89362a14068a76937cca989040be00e83a54"), looks := true }, told := true, goes := false }
def LawS3668BRequiredToldSaid : Prop := Claim7.holds Ybaf.pinned (.plain (OpenSpec.ofChange lawS3668BRequiredSpec)) lawS3668BRequiredCard
/-- ITS FALSE NEIGHBOUR. Refute it at one input. -/
def LawS3668BRequiredToldWrongFalsely : Prop := Claim7.holds Ybaf.pinned (.plain (OpenSpec.ofChange lawS3668BRequiredWrong)) lawS3668BRequiredCard
end Rows
end Go.Proofs.YbulkbwycFmt
