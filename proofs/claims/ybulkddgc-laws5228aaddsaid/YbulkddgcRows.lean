/-
  No cell of these rows narrows 'for every input' (looked for: loops, veiled, ifaces, maps, wideKeys, modest, calm, conditions, laid).
  DERIVED. THE GIVEN ROWS OF THIS SEAT. 1 by the template 'for every input the law returns true; each argument reads behind the call as it read before'; 0 by the template 'total and deterministic' (their statements: YbulkddgcTotals.lean).
  GIVEN WITH THE SEED: the statements are not yours to turn. If you find one false, say at which input.
  Laid BY PROGRAM, IN A SANDBOX (cutbox-rows.mjs): the forced cells as the released guide's own fill.sh prints them over the translation 28d3da4636fcde02… (all of the seat's roots in one cut). By AI agents, Wed Nov 11 2026. No macro, syntax, notation, axiom, sorry.
-/
import Derived.Test.YbulkddgcChecked
import GoSem.Claim
import GoSem.ClaimJoined
import GoSem.ClaimMapViews
import Derived.JoinedTies
import Derived.KernelRfl
namespace Go.Proofs.Ybulkddgc
/- THE CELL 'sum', in the pinned program and in every row, IS THE sha256 OF THE DUMP (.gsa) THAT YbulkddgcProg.lean LOADS. Nothing in Lean hashes anything: it is a label: what it is worth is what the hold of that sum in a sandbox is worth. -/
noncomputable def Yba.pinned : Pinned := { name := "ybulkddgc", sum := "28d3da4636fcde0221bf2c5028e5449421d67add7d4a0eee3a6a559871667dc5", checked := Yba.checked }
namespace Rows
def none {H : Type} : Left H := { results := [], args := [] }

/-- 'template.LawS5228AAdd': WHATEVER THE INPUT: true; the input reads as it did. -/
def lawS5228AAddSpec : ChangeSpec := { name := "lawS5228AAdd", fn := fun _ => fun
  | [d1, d2, d3] => { results := [.lit (.bool true)], args := [d1, d2, d3] }
  | _ => none }
def lawS5228AAddRow : OpenClaim := { program := "ybulkddgc", sum := "28d3da4636fcde0221bf2c5028e5449421d67add7d4a0eee3a6a559871667dc5", func := "example.com/stuntback/stuntback/internal/template.LawS5228AAdd", spec := "lawS5228AAdd", plainKeys := false, apart := false }
def LawS5228AAddSaid : Prop := lawS5228AAddRow.holds Yba.pinned (OpenSpec.ofChange lawS5228AAddSpec)

/-- ITS FALSE NEIGHBOUR: 'it returns false'. Refute it at one input. -/
def lawS5228AAddWrong : ChangeSpec := { name := "lawS5228AAdd", fn := fun _ => fun
  | [d1, d2, d3] => { results := [.lit (.bool false)], args := [d1, d2, d3] }
  | _ => none }
def LawS5228AAddWrongFalsely : Prop := lawS5228AAddRow.holds Yba.pinned (OpenSpec.ofChange lawS5228AAddWrong)

end Rows
end Go.Proofs.Ybulkddgc
