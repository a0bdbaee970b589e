/-
  No cell of these rows narrows 'for every input' (looked for: loops, veiled, ifaces, maps, wideKeys, modest, calm, conditions, laid).
  DERIVED. THE GIVEN ROWS OF THIS SEAT. 3 by the template 'for every input the law returns true; each argument reads behind the call as it read before'; 0 by the template 'total and deterministic' (their statements: YbulkegswTotals.lean).
  GIVEN WITH THE SEED: the statements are not yours to turn. If you find one false, say at which input.
  Laid BY PROGRAM, IN A SANDBOX (cutbox-rows.mjs): the forced cells as the released guide's own fill.sh prints them over the translation 58fefa7355950079… (all of the seat's roots in one cut). By AI agents, Wed Nov 11 2026. No macro, syntax, notation, axiom, sorry.
-/
import Derived.Test.YbulkegswChecked
import GoSem.Claim
import GoSem.ClaimJoined
import GoSem.ClaimMapViews
import Derived.JoinedTies
import Derived.KernelRfl
namespace Go.Proofs.Ybulkegsw
/- THE CELL 'sum', in the pinned program and in every row, IS THE sha256 OF THE DUMP (.gsa) THAT YbulkegswProg.lean LOADS. Nothing in Lean hashes anything: it is a label: what it is worth is what the hold of that sum in a sandbox is worth. -/
noncomputable def Yba.pinned : Pinned := { name := "ybulkegsw", sum := "58fefa73559500795f69e7334a5ce65165f3379d5673e7d47b0d9bf0ac66af78", checked := Yba.checked }
namespace Rows
def none {H : Type} : Left H := { results := [], args := [] }

/-- 'mesh.LawS6652AWhole': WHATEVER THE INPUT: true; the input reads as it did. -/
def lawS6652AWholeSpec : ChangeSpec := { name := "lawS6652AWhole", fn := fun _ => fun
  | [d1, d2, d3, d4, d5] => { results := [.lit (.bool true)], args := [d1, d2, d3, d4, d5] }
  | _ => none }
def lawS6652AWholeRow : OpenClaim := { program := "ybulkegsw", sum := "58fefa73559500795f69e7334a5ce65165f3379d5673e7d47b0d9bf0ac66af78", func := "example.com/meshwright/meshwright/mesh.LawS6652AWhole", spec := "lawS6652AWhole", unfollowed := true, recurses := true, apart := false }
def LawS6652AWholeSaid : Prop := lawS6652AWholeRow.holds Yba.pinned (OpenSpec.ofChange lawS6652AWholeSpec)

/-- ITS FALSE NEIGHBOUR: 'it returns false'. Refute it at one input. -/
def lawS6652AWholeWrong : ChangeSpec := { name := "lawS6652AWhole", fn := fun _ => fun
  | [d1, d2, d3, d4, d5] => { results := [.lit (.bool false)], args := [d1, d2, d3, d4, d5] }
  | _ => none }
def LawS6652AWholeWrongFalsely : Prop := lawS6652AWholeRow.holds Yba.pinned (OpenSpec.ofChange lawS6652AWholeWrong)

/-- 'replay.LawS6652BWhole': WHATEVER THE INPUT: true; the input reads as it did. -/
def lawS6652BWholeSpec : ChangeSpec := { name := "lawS6652BWhole", fn := fun _ => fun
  | [d1, d2, d3] => { results := [.lit (.bool true)], args := [d1, d2, d3] }
  | _ => none }
def lawS6652BWholeRow : OpenClaim := { program := "ybulkegsw", sum := "58fefa73559500795f69e7334a5ce65165f3379d5673e7d47b0d9bf0ac66af78", func := "example.com/meshwright/meshwright/replay.LawS6652BWhole", spec := "lawS6652BWhole", inPlace := ["math/bits.Add64"], apart := false }
def LawS6652BWholeSaid : Prop := lawS6652BWholeRow.holds Yba.pinned (OpenSpec.ofChange lawS6652BWholeSpec)

/-- ITS FALSE NEIGHBOUR: 'it returns false'. Refute it at one input. -/
def lawS6652BWholeWrong : ChangeSpec := { name := "lawS6652BWhole", fn := fun _ => fun
  | [d1, d2, d3] => { results := [.lit (.bool false)], args := [d1, d2, d3] }
  | _ => none }
def LawS6652BWholeWrongFalsely : Prop := lawS6652BWholeRow.holds Yba.pinned (OpenSpec.ofChange lawS6652BWholeWrong)

/-- 'mesh.LawS6652CWhole': WHATEVER THE INPUT: true; the input reads as it did. -/
def lawS6652CWholeSpec : ChangeSpec := { name := "lawS6652CWhole", fn := fun _ => fun
  | [d1, d2, d3, d4] => { results := [.lit (.bool true)], args := [d1, d2, d3, d4] }
  | _ => none }
def lawS6652CWholeRow : OpenClaim := { program := "ybulkegsw", sum := "58fefa73559500795f69e7334a5ce65165f3379d5673e7d47b0d9bf0ac66af78", func := "example.com/meshwright/meshwright/mesh.LawS6652CWhole", spec := "lawS6652CWhole", apart := false }
def LawS6652CWholeSaid : Prop := lawS6652CWholeRow.holds Yba.pinned (OpenSpec.ofChange lawS6652CWholeSpec)

/-- ITS FALSE NEIGHBOUR: 'it returns false'. Refute it at one input. -/
def lawS6652CWholeWrong : ChangeSpec := { name := "lawS6652CWhole", fn := fun _ => fun
  | [d1, d2, d3, d4] => { results := [.lit (.bool false)], args := [d1, d2, d3, d4] }
  | _ => none }
def LawS6652CWholeWrongFalsely : Prop := lawS6652CWholeRow.holds Yba.pinned (OpenSpec.ofChange lawS6652CWholeWrong)

end Rows
end Go.Proofs.Ybulkegsw
