/-
  DERIVED. GIVEN WITH THE SEED: THE CARDS: each row of YbulkdczqFmtRows.lean that lists a variable, with what it lists TIED to the program's text (the seventh form; the later family's looks); each row that meets fmt, with fmt's text TOLD by the authors' own Lean function (tested against real Go, not proved from fmt's source: count such statements apart). THE CARD IS WHAT COUNTS. Prove the row's statement (the work); the ties are given (YbulkdczqFmtTie.lean); close each card by the builder's one call (the guide's Derived/Test/ToyasCard.lean, 'card_holds'). Laid BY PROGRAM, IN A SANDBOX (cutbox-door.mjs). By AI agents, Wed Nov 11 2026. No macro, syntax, notation, axiom, sorry.
-/
import Derived.Test.YbulkdczqFmtRows
import GoSem.ClaimSeven
namespace Go.Proofs.YbulkdczqFmt
namespace Rows

/-- THE TOLD CARD OF 'coterie.LawS5216CModel'. -/
def lawS5216CModelCard : Claim7 := { stood := { row := lawS5216CModelRow, standIns := [], harness := (true, "4ae162d7d40a2edd67fc0f2567d0bc1ebb9b6e38bc19493fea194410b92559e9"), looks := false }, told := true, goes := false }
def LawS5216CModelToldSaid : Prop := Claim7.holds Ybaf.pinned (.plain (OpenSpec.ofChange lawS5216CModelSpec)) lawS5216CModelCard
/-- ITS FALSE NEIGHBOUR. Refute it at one input. -/
def LawS5216CModelToldWrongFalsely : Prop := Claim7.holds Ybaf.pinned (.plain (OpenSpec.ofChange lawS5216CModelWrong)) lawS5216CModelCard

/-- THE TOLD CARD OF 'coterie.LawS5216CWitness'. -/
def lawS5216CWitnessCard : Claim7 := { stood := { row := lawS5216CWitnessRow, standIns := [], harness := (true, "4ae162d7d40a2edd67fc0f2567d0bc1ebb9b6e38bc19493fea194410b92559e9"), looks := false }, told := true, goes := false }
def LawS5216CWitnessToldSaid : Prop := Claim7.holds Ybaf.pinned (.plain (OpenSpec.ofChange lawS5216CWitnessSpec)) lawS5216CWitnessCard
/-- ITS FALSE NEIGHBOUR. Refute it at one input. -/
def LawS5216CWitnessToldWrongFalsely : Prop := Claim7.holds Ybaf.pinned (.plain (OpenSpec.ofChange lawS5216CWitnessWrong)) lawS5216CWitnessCard
end Rows
end Go.Proofs.YbulkdczqFmt
