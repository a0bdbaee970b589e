/-
  No cell of these rows narrows 'for every input' (looked for: loops, veiled, ifaces, maps, wideKeys, modest, calm, conditions, laid).
  DERIVED. THE GIVEN ROWS OF THIS SEAT. 3 by the template 'for every input the law returns true; each argument reads behind the call as it read before'; 0 by the template 'total and deterministic' (their statements: YbulkegtyTotals.lean).
  GIVEN WITH THE SEED: the statements are not yours to turn. If you find one false, say at which input.
  Laid BY PROGRAM, IN A SANDBOX (cutbox-rows.mjs): the forced cells as the released guide's own fill.sh prints them over the translation 0a0d8e472ff12a04… (all of the seat's roots in one cut). By AI agents, Wed Nov 11 2026. No macro, syntax, notation, axiom, sorry.
-/
import Derived.Test.YbulkegtyChecked
import GoSem.Claim
import GoSem.ClaimJoined
import GoSem.ClaimMapViews
import Derived.JoinedTies
import Derived.KernelRfl
namespace Go.Proofs.Ybulkegty
/- THE CELL 'sum', in the pinned program and in every row, IS THE sha256 OF THE DUMP (.gsa) THAT YbulkegtyProg.lean LOADS. Nothing in Lean hashes anything: it is a label: what it is worth is what the hold of that sum in a sandbox is worth. -/
noncomputable def Yba.pinned : Pinned := { name := "ybulkegty", sum := "0a0d8e472ff12a04adbaa76855d7752fcb7e6bf35f2181be363d843e90cb1dd8", checked := Yba.checked }
namespace Rows
def none {H : Type} : Left H := { results := [], args := [] }

/-- 'diameter.LawS6654AWhole': WHATEVER THE INPUT: true; the input reads as it did. -/
def lawS6654AWholeSpec : ChangeSpec := { name := "lawS6654AWhole", fn := fun _ => fun
  | [d1, d2, d3, d4] => { results := [.lit (.bool true)], args := [d1, d2, d3, d4] }
  | _ => none }
def lawS6654AWholeRow : OpenClaim := { program := "ybulkegty", sum := "0a0d8e472ff12a04adbaa76855d7752fcb7e6bf35f2181be363d843e90cb1dd8", func := "example.com/keyloom/keyloom/internal/diameter.LawS6654AWhole", spec := "lawS6654AWhole", named := ["encoding/binary.BigEndian"], apart := false }
def LawS6654AWholeSaid : Prop := lawS6654AWholeRow.holds Yba.pinned (OpenSpec.ofChange lawS6654AWholeSpec)

/-- ITS FALSE NEIGHBOUR: 'it returns false'. Refute it at one input. -/
def lawS6654AWholeWrong : ChangeSpec := { name := "lawS6654AWhole", fn := fun _ => fun
  | [d1, d2, d3, d4] => { results := [.lit (.bool false)], args := [d1, d2, d3, d4] }
  | _ => none }
def LawS6654AWholeWrongFalsely : Prop := lawS6654AWholeRow.holds Yba.pinned (OpenSpec.ofChange lawS6654AWholeWrong)

/-- 'diameter.LawS6654ARoundTrip': WHATEVER THE INPUT: true; the input reads as it did. -/
def lawS6654ARoundTripSpec : ChangeSpec := { name := "lawS6654ARoundTrip", fn := fun _ => fun
  | [d1, d2, d3] => { results := [.lit (.bool true)], args := [d1, d2, d3] }
  | _ => none }
def lawS6654ARoundTripRow : OpenClaim := { program := "ybulkegty", sum := "0a0d8e472ff12a04adbaa76855d7752fcb7e6bf35f2181be363d843e90cb1dd8", func := "example.com/keyloom/keyloom/internal/diameter.LawS6654ARoundTrip", spec := "lawS6654ARoundTrip", named := ["encoding/binary.BigEndian"], apart := false }
def LawS6654ARoundTripSaid : Prop := lawS6654ARoundTripRow.holds Yba.pinned (OpenSpec.ofChange lawS6654ARoundTripSpec)

/-- ITS FALSE NEIGHBOUR: 'it returns false'. Refute it at one input. -/
def lawS6654ARoundTripWrong : ChangeSpec := { name := "lawS6654ARoundTrip", fn := fun _ => fun
  | [d1, d2, d3] => { results := [.lit (.bool false)], args := [d1, d2, d3] }
  | _ => none }
def LawS6654ARoundTripWrongFalsely : Prop := lawS6654ARoundTripRow.holds Yba.pinned (OpenSpec.ofChange lawS6654ARoundTripWrong)

/-- 'diameter.LawS6654CWhole': WHATEVER THE INPUT: true; the input reads as it did. -/
def lawS6654CWholeSpec : ChangeSpec := { name := "lawS6654CWhole", fn := fun _ => fun
  | [d] => { results := [.lit (.bool true)], args := [d] }
  | _ => none }
def lawS6654CWholeRow : OpenClaim := { program := "ybulkegty", sum := "0a0d8e472ff12a04adbaa76855d7752fcb7e6bf35f2181be363d843e90cb1dd8", func := "example.com/keyloom/keyloom/internal/diameter.LawS6654CWhole", spec := "lawS6654CWhole", named := ["encoding/binary.BigEndian"], apart := false }
def LawS6654CWholeSaid : Prop := lawS6654CWholeRow.holds Yba.pinned (OpenSpec.ofChange lawS6654CWholeSpec)

/-- ITS FALSE NEIGHBOUR: 'it returns false'. Refute it at one input. -/
def lawS6654CWholeWrong : ChangeSpec := { name := "lawS6654CWhole", fn := fun _ => fun
  | [d] => { results := [.lit (.bool false)], args := [d] }
  | _ => none }
def LawS6654CWholeWrongFalsely : Prop := lawS6654CWholeRow.holds Yba.pinned (OpenSpec.ofChange lawS6654CWholeWrong)

end Rows
end Go.Proofs.Ybulkegty
