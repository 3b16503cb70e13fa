/-
  DERIVED. GIVEN WITH THE SEED: THE CARDS: each row of YbulknocFmtRows.lean that lists a variable, with what it lists TIED to the program's text (the seventh form; the later family's looks); each row that meets fmt, with fmt's text TOLD by the authors' own Lean function (tested against real Go, not proved from fmt's source: count such statements apart). THE CARD IS WHAT COUNTS. Prove the row's statement (the work); the ties are given (YbulknocFmtTie.lean); close each card by the builder's one call (the guide's Derived/Test/ToyasCard.lean, 'card_holds'). Laid BY PROGRAM, IN A SANDBOX (cutbox-door.mjs). By AI agents, Wed Nov 11 2026. No macro, syntax, notation, axiom, sorry.
-/
import Derived.Test.YbulknocFmtRows
import GoSem.ClaimSeven
namespace Go.Proofs.YbulknocFmt
namespace Rows

/-- THE TOLD CARD OF 'query.LawS0704BPieces'. -/
def lawS0704BPiecesCard : Claim7 := { stood := { row := lawS0704BPiecesRow, standIns := [], harness := (true, "300964943dd4e013911180dda125aa72e56d67c26d9dc95921f336ec96892ee0"), looks := true }, told := true, goes := false }
def LawS0704BPiecesToldSaid : Prop := Claim7.holds Ybaf.pinned (.plain (OpenSpec.ofChange lawS0704BPiecesSpec)) lawS0704BPiecesCard
/-- ITS FALSE NEIGHBOUR. Refute it at one input. -/
def LawS0704BPiecesToldWrongFalsely : Prop := Claim7.holds Ybaf.pinned (.plain (OpenSpec.ofChange lawS0704BPiecesWrong)) lawS0704BPiecesCard

/-- THE TOLD CARD OF 'query.LawS0704BLimits'. -/
def lawS0704BLimitsCard : Claim7 := { stood := { row := lawS0704BLimitsRow, standIns := [], harness := (true, "300964943dd4e013911180dda125aa72e56d67c26d9dc95921f336ec96892ee0"), looks := true }, told := true, goes := false }
def LawS0704BLimitsToldSaid : Prop := Claim7.holds Ybaf.pinned (.plain (OpenSpec.ofChange lawS0704BLimitsSpec)) lawS0704BLimitsCard
/-- ITS FALSE NEIGHBOUR. Refute it at one input. -/
def LawS0704BLimitsToldWrongFalsely : Prop := Claim7.holds Ybaf.pinned (.plain (OpenSpec.ofChange lawS0704BLimitsWrong)) lawS0704BLimitsCard
end Rows
end Go.Proofs.YbulknocFmt
