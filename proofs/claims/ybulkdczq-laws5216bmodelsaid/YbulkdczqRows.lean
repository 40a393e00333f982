/-
  No cell of these rows narrows 'for every input' (looked for: loops, veiled, ifaces, maps, wideKeys, modest, calm, conditions, laid).
  DERIVED. THE GIVEN ROWS OF THIS SEAT. 2 by the template 'for every input the law returns true; each argument reads behind the call as it read before'; 0 by the template 'total and deterministic' (their statements: YbulkdczqTotals.lean).
  GIVEN WITH THE SEED: the statements are not yours to turn. If you find one false, say at which input.
  Laid BY PROGRAM, IN A SANDBOX (cutbox-rows.mjs): the forced cells as the released guide's own fill.sh prints them over the translation ab18a4ff0fdb9858… (all of the seat's roots in one cut). By AI agents, Wed Nov 11 2026. No macro, syntax, notation, axiom, sorry.
-/
import Derived.Test.YbulkdczqChecked
import GoSem.Claim
import GoSem.ClaimJoined
import GoSem.ClaimMapViews
import Derived.JoinedTies
import Derived.KernelRfl
namespace Go.Proofs.Ybulkdczq
/- THE CELL 'sum', in the pinned program and in every row, IS THE sha256 OF THE DUMP (.gsa) THAT YbulkdczqProg.lean LOADS. Nothing in Lean hashes anything: it is a label: what it is worth is what the hold of that sum in a sandbox is worth. -/
noncomputable def Yba.pinned : Pinned := { name := "ybulkdczq", sum := "ab18a4ff0fdb9858df0604deb19781a9936ef4aaf4e54280240a59b9df4cefbb", checked := Yba.checked }
namespace Rows
def none {H : Type} : Left H := { results := [], args := [] }

/-- 'coterie.LawS5216BModel': WHATEVER THE INPUT: true; the input reads as it did. -/
def lawS5216BModelSpec : ChangeSpec := { name := "lawS5216BModel", fn := fun _ => fun
  | [d1, d2, d3, d4, d5] => { results := [.lit (.bool true)], args := [d1, d2, d3, d4, d5] }
  | _ => none }
def lawS5216BModelRow : OpenClaim := { program := "ybulkdczq", sum := "ab18a4ff0fdb9858df0604deb19781a9936ef4aaf4e54280240a59b9df4cefbb", func := "example.com/coterie/coterie.LawS5216BModel", spec := "lawS5216BModel", apart := false }
def LawS5216BModelSaid : Prop := lawS5216BModelRow.holds Yba.pinned (OpenSpec.ofChange lawS5216BModelSpec)

/-- ITS FALSE NEIGHBOUR: 'it returns false'. Refute it at one input. -/
def lawS5216BModelWrong : ChangeSpec := { name := "lawS5216BModel", fn := fun _ => fun
  | [d1, d2, d3, d4, d5] => { results := [.lit (.bool false)], args := [d1, d2, d3, d4, d5] }
  | _ => none }
def LawS5216BModelWrongFalsely : Prop := lawS5216BModelRow.holds Yba.pinned (OpenSpec.ofChange lawS5216BModelWrong)

/-- 'coterie.LawS5216BShrinks': WHATEVER THE INPUT: true; the input reads as it did. -/
def lawS5216BShrinksSpec : ChangeSpec := { name := "lawS5216BShrinks", fn := fun _ => fun
  | [d1, d2, d3, d4, d5] => { results := [.lit (.bool true)], args := [d1, d2, d3, d4, d5] }
  | _ => none }
def lawS5216BShrinksRow : OpenClaim := { program := "ybulkdczq", sum := "ab18a4ff0fdb9858df0604deb19781a9936ef4aaf4e54280240a59b9df4cefbb", func := "example.com/coterie/coterie.LawS5216BShrinks", spec := "lawS5216BShrinks", apart := false }
def LawS5216BShrinksSaid : Prop := lawS5216BShrinksRow.holds Yba.pinned (OpenSpec.ofChange lawS5216BShrinksSpec)

/-- ITS FALSE NEIGHBOUR: 'it returns false'. Refute it at one input. -/
def lawS5216BShrinksWrong : ChangeSpec := { name := "lawS5216BShrinks", fn := fun _ => fun
  | [d1, d2, d3, d4, d5] => { results := [.lit (.bool false)], args := [d1, d2, d3, d4, d5] }
  | _ => none }
def LawS5216BShrinksWrongFalsely : Prop := lawS5216BShrinksRow.holds Yba.pinned (OpenSpec.ofChange lawS5216BShrinksWrong)

end Rows
end Go.Proofs.Ybulkdczq
