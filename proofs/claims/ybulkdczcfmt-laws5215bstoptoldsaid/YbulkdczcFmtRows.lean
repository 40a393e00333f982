/-
  No cell of these rows narrows 'for every input' (looked for: loops, veiled, ifaces, maps, wideKeys, modest, calm, conditions, laid).
  DERIVED. THE GIVEN ROWS OF THIS SEAT. 2 by the template 'for every input the law returns true; each argument reads behind the call as it read before'; 0 by the template 'total and deterministic' (their statements: YbulkdczcFmtTotals.lean).
  GIVEN WITH THE SEED: the statements are not yours to turn. If you find one false, say at which input.
  Laid BY PROGRAM, IN A SANDBOX (cutbox-rows.mjs): the forced cells as the released guide's own fill.sh prints them over the translation 4b4ba12209823e34… (all of the seat's roots in one cut). By AI agents, Wed Nov 11 2026. No macro, syntax, notation, axiom, sorry.
-/
import Derived.Test.YbulkdczcFmtChecked
import GoSem.Claim
import GoSem.ClaimJoined
import GoSem.ClaimMapViews
import Derived.JoinedTies
import Derived.KernelRfl
namespace Go.Proofs.YbulkdczcFmt
/- THE CELL 'sum', in the pinned program and in every row, IS THE sha256 OF THE DUMP (.gsa) THAT YbulkdczcFmtProg.lean LOADS. Nothing in Lean hashes anything: it is a label: what it is worth is what the hold of that sum in a sandbox is worth. -/
noncomputable def Ybaf.pinned : Pinned := { name := "ybulkdczcfmt", sum := "4b4ba12209823e349402abbe6f32fc2721547909ede891c2926908805f122cb3", checked := Ybaf.checked }
namespace Rows
def none {H : Type} : Left H := { results := [], args := [] }

/-- 'state.LawS5215BAll': WHATEVER THE INPUT: true; the input reads as it did. -/
def lawS5215BAllSpec : ChangeSpec := { name := "lawS5215BAll", fn := fun _ => fun
  | [d] => { results := [.lit (.bool true)], args := [d] }
  | _ => none }
def lawS5215BAllRow : OpenClaim := { program := "ybulkdczcfmt", sum := "4b4ba12209823e349402abbe6f32fc2721547909ede891c2926908805f122cb3", func := "ronde.example/ronde/state.LawS5215BAll", spec := "lawS5215BAll", stops := ["fmt.Sprintf"], inPlace := ["fmt.Sprintf", "internal/abi.NoEscape", "internal/bytealg.MakeNoZero"], unfollowed := true, recurses := true, named := ["encoding/binary.BigEndian"], apart := false }
/-- NO THEOREM (fmt's text is open here; it may be false): for the released tool's asking of the row's closed facts alone. THE STATEMENT IS 'LawS5215BAllToldSaid' (YbulkdczcFmtCards.lean). -/
def LawS5215BAllFormAsk : Prop := lawS5215BAllRow.holds Ybaf.pinned (OpenSpec.ofChange lawS5215BAllSpec)

/-- ITS FALSE NEIGHBOUR: 'it returns false'. Refute it at one input. -/
def lawS5215BAllWrong : ChangeSpec := { name := "lawS5215BAll", fn := fun _ => fun
  | [d] => { results := [.lit (.bool false)], args := [d] }
  | _ => none }
def LawS5215BAllWrongFormAsk : Prop := lawS5215BAllRow.holds Ybaf.pinned (OpenSpec.ofChange lawS5215BAllWrong)

/-- 'state.LawS5215BStop': WHATEVER THE INPUT: true; the input reads as it did. -/
def lawS5215BStopSpec : ChangeSpec := { name := "lawS5215BStop", fn := fun _ => fun
  | [d1, d2] => { results := [.lit (.bool true)], args := [d1, d2] }
  | _ => none }
def lawS5215BStopRow : OpenClaim := { program := "ybulkdczcfmt", sum := "4b4ba12209823e349402abbe6f32fc2721547909ede891c2926908805f122cb3", func := "ronde.example/ronde/state.LawS5215BStop", spec := "lawS5215BStop", stops := ["fmt.Sprintf"], inPlace := ["fmt.Sprintf", "internal/abi.NoEscape", "internal/bytealg.MakeNoZero"], unfollowed := true, recurses := true, named := ["encoding/binary.BigEndian"], apart := false }
/-- NO THEOREM (fmt's text is open here; it may be false): for the released tool's asking of the row's closed facts alone. THE STATEMENT IS 'LawS5215BStopToldSaid' (YbulkdczcFmtCards.lean). -/
def LawS5215BStopFormAsk : Prop := lawS5215BStopRow.holds Ybaf.pinned (OpenSpec.ofChange lawS5215BStopSpec)

/-- ITS FALSE NEIGHBOUR: 'it returns false'. Refute it at one input. -/
def lawS5215BStopWrong : ChangeSpec := { name := "lawS5215BStop", fn := fun _ => fun
  | [d1, d2] => { results := [.lit (.bool false)], args := [d1, d2] }
  | _ => none }
def LawS5215BStopWrongFormAsk : Prop := lawS5215BStopRow.holds Ybaf.pinned (OpenSpec.ofChange lawS5215BStopWrong)

end Rows
end Go.Proofs.YbulkdczcFmt
