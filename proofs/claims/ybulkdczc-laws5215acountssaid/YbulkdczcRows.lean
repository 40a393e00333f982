/-
  No cell of these rows narrows 'for every input' (looked for: loops, veiled, ifaces, maps, wideKeys, modest, calm, conditions, laid).
  DERIVED. THE GIVEN ROWS OF THIS SEAT. 2 by the template 'for every input the law returns true; each argument reads behind the call as it read before'; 0 by the template 'total and deterministic' (their statements: YbulkdczcTotals.lean).
  GIVEN WITH THE SEED: the statements are not yours to turn. If you find one false, say at which input.
  Laid BY PROGRAM, IN A SANDBOX (cutbox-rows.mjs): the forced cells as the released guide's own fill.sh prints them over the translation ae4f9c024bfa7c2f… (all of the seat's roots in one cut). By AI agents, Wed Nov 11 2026. No macro, syntax, notation, axiom, sorry.
-/
import Derived.Test.YbulkdczcChecked
import GoSem.Claim
import GoSem.ClaimJoined
import GoSem.ClaimMapViews
import Derived.JoinedTies
import Derived.KernelRfl
namespace Go.Proofs.Ybulkdczc
/- THE CELL 'sum', in the pinned program and in every row, IS THE sha256 OF THE DUMP (.gsa) THAT YbulkdczcProg.lean LOADS. Nothing in Lean hashes anything: it is a label: what it is worth is what the hold of that sum in a sandbox is worth. -/
noncomputable def Yba.pinned : Pinned := { name := "ybulkdczc", sum := "ae4f9c024bfa7c2f78ac1cbbf7af996e3cdb21601c8fe2d4abc1419a2b4f0c78", checked := Yba.checked }
namespace Rows
def none {H : Type} : Left H := { results := [], args := [] }

/-- 'async.LawS5215ACounts': WHATEVER THE INPUT: true; the input reads as it did. -/
def lawS5215ACountsSpec : ChangeSpec := { name := "lawS5215ACounts", fn := fun _ => fun
  | [d1, d2] => { results := [.lit (.bool true)], args := [d1, d2] }
  | _ => none }
def lawS5215ACountsRow : OpenClaim := { program := "ybulkdczc", sum := "ae4f9c024bfa7c2f78ac1cbbf7af996e3cdb21601c8fe2d4abc1419a2b4f0c78", func := "ronde.example/ronde/async.LawS5215ACounts", spec := "lawS5215ACounts", unfollowed := true, recurses := true, apart := false }
def LawS5215ACountsSaid : Prop := lawS5215ACountsRow.holds Yba.pinned (OpenSpec.ofChange lawS5215ACountsSpec)

/-- ITS FALSE NEIGHBOUR: 'it returns false'. Refute it at one input. -/
def lawS5215ACountsWrong : ChangeSpec := { name := "lawS5215ACounts", fn := fun _ => fun
  | [d1, d2] => { results := [.lit (.bool false)], args := [d1, d2] }
  | _ => none }
def LawS5215ACountsWrongFalsely : Prop := lawS5215ACountsRow.holds Yba.pinned (OpenSpec.ofChange lawS5215ACountsWrong)

/-- 'async.LawS5215AExact': WHATEVER THE INPUT: true; the input reads as it did. -/
def lawS5215AExactSpec : ChangeSpec := { name := "lawS5215AExact", fn := fun _ => fun
  | [d1, d2] => { results := [.lit (.bool true)], args := [d1, d2] }
  | _ => none }
def lawS5215AExactRow : OpenClaim := { program := "ybulkdczc", sum := "ae4f9c024bfa7c2f78ac1cbbf7af996e3cdb21601c8fe2d4abc1419a2b4f0c78", func := "ronde.example/ronde/async.LawS5215AExact", spec := "lawS5215AExact", unfollowed := true, recurses := true, apart := false }
def LawS5215AExactSaid : Prop := lawS5215AExactRow.holds Yba.pinned (OpenSpec.ofChange lawS5215AExactSpec)

/-- ITS FALSE NEIGHBOUR: 'it returns false'. Refute it at one input. -/
def lawS5215AExactWrong : ChangeSpec := { name := "lawS5215AExact", fn := fun _ => fun
  | [d1, d2] => { results := [.lit (.bool false)], args := [d1, d2] }
  | _ => none }
def LawS5215AExactWrongFalsely : Prop := lawS5215AExactRow.holds Yba.pinned (OpenSpec.ofChange lawS5215AExactWrong)

end Rows
end Go.Proofs.Ybulkdczc
