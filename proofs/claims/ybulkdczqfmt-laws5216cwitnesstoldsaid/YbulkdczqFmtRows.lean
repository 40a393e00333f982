/-
  No cell of these rows narrows 'for every input' (looked for: loops, veiled, ifaces, maps, wideKeys, modest, calm, conditions, laid).
  DERIVED. THE GIVEN ROWS OF THIS SEAT. 2 by the template 'for every input the law returns true; each argument reads behind the call as it read before'; 0 by the template 'total and deterministic' (their statements: YbulkdczqFmtTotals.lean).
  GIVEN WITH THE SEED: the statements are not yours to turn. If you find one false, say at which input.
  Laid BY PROGRAM, IN A SANDBOX (cutbox-rows.mjs): the forced cells as the released guide's own fill.sh prints them over the translation 4227ed4e3a82ff5a… (all of the seat's roots in one cut). By AI agents, Wed Nov 11 2026. No macro, syntax, notation, axiom, sorry.
-/
import Derived.Test.YbulkdczqFmtChecked
import GoSem.Claim
import GoSem.ClaimJoined
import GoSem.ClaimMapViews
import Derived.JoinedTies
import Derived.KernelRfl
namespace Go.Proofs.YbulkdczqFmt
/- THE CELL 'sum', in the pinned program and in every row, IS THE sha256 OF THE DUMP (.gsa) THAT YbulkdczqFmtProg.lean LOADS. Nothing in Lean hashes anything: it is a label: what it is worth is what the hold of that sum in a sandbox is worth. -/
noncomputable def Ybaf.pinned : Pinned := { name := "ybulkdczqfmt", sum := "4227ed4e3a82ff5abc31a75e14ff8c02d99016d86bf316f410ce542973728242", checked := Ybaf.checked }
namespace Rows
def none {H : Type} : Left H := { results := [], args := [] }

/-- 'coterie.LawS5216CModel': WHATEVER THE INPUT: true; the input reads as it did. -/
def lawS5216CModelSpec : ChangeSpec := { name := "lawS5216CModel", fn := fun _ => fun
  | [d1, d2, d3, d4] => { results := [.lit (.bool true)], args := [d1, d2, d3, d4] }
  | _ => none }
def lawS5216CModelRow : OpenClaim := { program := "ybulkdczqfmt", sum := "4227ed4e3a82ff5abc31a75e14ff8c02d99016d86bf316f410ce542973728242", func := "example.com/coterie/coterie.LawS5216CModel", spec := "lawS5216CModel", stops := ["fmt.Sprintf"], inPlace := ["fmt.Sprintf"], unfollowed := true, recurses := true, apart := false }
/-- NO THEOREM (fmt's text is open here; it may be false): for the released tool's asking of the row's closed facts alone. THE STATEMENT IS 'LawS5216CModelToldSaid' (YbulkdczqFmtCards.lean). -/
def LawS5216CModelFormAsk : Prop := lawS5216CModelRow.holds Ybaf.pinned (OpenSpec.ofChange lawS5216CModelSpec)

/-- ITS FALSE NEIGHBOUR: 'it returns false'. Refute it at one input. -/
def lawS5216CModelWrong : ChangeSpec := { name := "lawS5216CModel", fn := fun _ => fun
  | [d1, d2, d3, d4] => { results := [.lit (.bool false)], args := [d1, d2, d3, d4] }
  | _ => none }
def LawS5216CModelWrongFormAsk : Prop := lawS5216CModelRow.holds Ybaf.pinned (OpenSpec.ofChange lawS5216CModelWrong)

/-- 'coterie.LawS5216CWitness': WHATEVER THE INPUT: true; the input reads as it did. -/
def lawS5216CWitnessSpec : ChangeSpec := { name := "lawS5216CWitness", fn := fun _ => fun
  | [d1, d2, d3] => { results := [.lit (.bool true)], args := [d1, d2, d3] }
  | _ => none }
def lawS5216CWitnessRow : OpenClaim := { program := "ybulkdczqfmt", sum := "4227ed4e3a82ff5abc31a75e14ff8c02d99016d86bf316f410ce542973728242", func := "example.com/coterie/coterie.LawS5216CWitness", spec := "lawS5216CWitness", stops := ["fmt.Sprintf"], inPlace := ["fmt.Sprintf"], unfollowed := true, recurses := true, apart := false }
/-- NO THEOREM (fmt's text is open here; it may be false): for the released tool's asking of the row's closed facts alone. THE STATEMENT IS 'LawS5216CWitnessToldSaid' (YbulkdczqFmtCards.lean). -/
def LawS5216CWitnessFormAsk : Prop := lawS5216CWitnessRow.holds Ybaf.pinned (OpenSpec.ofChange lawS5216CWitnessSpec)

/-- ITS FALSE NEIGHBOUR: 'it returns false'. Refute it at one input. -/
def lawS5216CWitnessWrong : ChangeSpec := { name := "lawS5216CWitness", fn := fun _ => fun
  | [d1, d2, d3] => { results := [.lit (.bool false)], args := [d1, d2, d3] }
  | _ => none }
def LawS5216CWitnessWrongFormAsk : Prop := lawS5216CWitnessRow.holds Ybaf.pinned (OpenSpec.ofChange lawS5216CWitnessWrong)

end Rows
end Go.Proofs.YbulkdczqFmt
