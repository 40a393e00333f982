/-
  DERIVED. GIVEN WITH THE SEED: THE CARDS: each row of YbulkdczcFmtRows.lean that lists a variable, with what it lists TIED to the program's text (the seventh form; the later family's looks); each row that meets fmt, with fmt's text TOLD by the authors' own Lean function (tested against real Go, not proved from fmt's source: count such statements apart). THE CARD IS WHAT COUNTS. Prove the row's statement (the work); the ties are given (YbulkdczcFmtTie.lean); close each card by the builder's one call (the guide's Derived/Test/ToyasCard.lean, 'card_holds'). Laid BY PROGRAM, IN A SANDBOX (cutbox-door.mjs). By AI agents, Wed Nov 11 2026. No macro, syntax, notation, axiom, sorry.
-/
import Derived.Test.YbulkdczcFmtRows
import GoSem.ClaimSeven
namespace Go.Proofs.YbulkdczcFmt
namespace Rows

/-- THE TOLD CARD OF 'state.LawS5215BAll'. -/
def lawS5215BAllCard : Claim7 := { stood := { row := lawS5215BAllRow, standIns := [], harness := (true, "5f752bb1b9da2e258026e76d0e5ee2dcba8d24aade0c59a74e5511742359e292"), looks := false }, told := true, goes := false }
def LawS5215BAllToldSaid : Prop := Claim7.holds Ybaf.pinned (.plain (OpenSpec.ofChange lawS5215BAllSpec)) lawS5215BAllCard
/-- ITS FALSE NEIGHBOUR. Refute it at one input. -/
def LawS5215BAllToldWrongFalsely : Prop := Claim7.holds Ybaf.pinned (.plain (OpenSpec.ofChange lawS5215BAllWrong)) lawS5215BAllCard

/-- THE TOLD CARD OF 'state.LawS5215BStop'. -/
def lawS5215BStopCard : Claim7 := { stood := { row := lawS5215BStopRow, standIns := [], harness := (true, "5f752bb1b9da2e258026e76d0e5ee2dcba8d24aade0c59a74e5511742359e292"), looks := false }, told := true, goes := false }
def LawS5215BStopToldSaid : Prop := Claim7.holds Ybaf.pinned (.plain (OpenSpec.ofChange lawS5215BStopSpec)) lawS5215BStopCard
/-- ITS FALSE NEIGHBOUR. Refute it at one input. -/
def LawS5215BStopToldWrongFalsely : Prop := Claim7.holds Ybaf.pinned (.plain (OpenSpec.ofChange lawS5215BStopWrong)) lawS5215BStopCard
end Rows
end Go.Proofs.YbulkdczcFmt
