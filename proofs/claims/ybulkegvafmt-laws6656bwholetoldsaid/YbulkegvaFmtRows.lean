/-
  No cell of these rows narrows 'for every input' (looked for: loops, veiled, ifaces, maps, wideKeys, modest, calm, conditions, laid).
  DERIVED. THE GIVEN ROWS OF THIS SEAT. 1 by the template 'for every input the law returns true; each argument reads behind the call as it read before'; 0 by the template 'total and deterministic' (their statements: YbulkegvaFmtTotals.lean).
  GIVEN WITH THE SEED: the statements are not yours to turn. If you find one false, say at which input.
  Laid BY PROGRAM, IN A SANDBOX (cutbox-rows.mjs): the forced cells as the released guide's own fill.sh prints them over the translation 218306b0266eddd8… (all of the seat's roots in one cut). By AI agents, Wed Nov 11 2026. No macro, syntax, notation, axiom, sorry.
-/
import Derived.Test.YbulkegvaFmtChecked
import GoSem.Claim
import GoSem.ClaimJoined
import GoSem.ClaimMapViews
import Derived.JoinedTies
import Derived.KernelRfl
namespace Go.Proofs.YbulkegvaFmt
/- THE CELL 'sum', in the pinned program and in every row, IS THE sha256 OF THE DUMP (.gsa) THAT YbulkegvaFmtProg.lean LOADS. Nothing in Lean hashes anything: it is a label: what it is worth is what the hold of that sum in a sandbox is worth. -/
noncomputable def Ybaf.pinned : Pinned := { name := "ybulkegvafmt", sum := "218306b0266eddd85d55815f232e57df49d9e6cc06a038a0220cd9e75eef44eb", checked := Ybaf.checked }
namespace Rows
def none {H : Type} : Left H := { results := [], args := [] }

/-- 'testserver.LawS6656BWhole': WHATEVER THE INPUT: true; the input reads as it did. -/
def lawS6656BWholeSpec : ChangeSpec := { name := "lawS6656BWhole", fn := fun _ => fun
  | [d1, d2, d3] => { results := [.lit (.bool true)], args := [d1, d2, d3] }
  | _ => none }
def lawS6656BWholeRow : OpenClaim := { program := "ybulkegvafmt", sum := "218306b0266eddd85d55815f232e57df49d9e6cc06a038a0220cd9e75eef44eb", func := "example.com/sieveline/sieveline/testserver.LawS6656BWhole", spec := "lawS6656BWhole", stops := ["fmt.Sprintf, its operands' methods called"], inPlace := ["fmt.Sprintf"], unfollowed := true, recurses := true, apart := false }
/-- NO THEOREM (fmt's text is open here; it may be false): for the released tool's asking of the row's closed facts alone. THE STATEMENT IS 'LawS6656BWholeToldSaid' (YbulkegvaFmtCards.lean). -/
def LawS6656BWholeFormAsk : Prop := lawS6656BWholeRow.holds Ybaf.pinned (OpenSpec.ofChange lawS6656BWholeSpec)

/-- ITS FALSE NEIGHBOUR: 'it returns false'. Refute it at one input. -/
def lawS6656BWholeWrong : ChangeSpec := { name := "lawS6656BWhole", fn := fun _ => fun
  | [d1, d2, d3] => { results := [.lit (.bool false)], args := [d1, d2, d3] }
  | _ => none }
def LawS6656BWholeWrongFormAsk : Prop := lawS6656BWholeRow.holds Ybaf.pinned (OpenSpec.ofChange lawS6656BWholeWrong)

end Rows
end Go.Proofs.YbulkegvaFmt
