/-
  No cell of these rows narrows 'for every input' (looked for: loops, veiled, ifaces, maps, wideKeys, modest, calm, conditions, laid).
  DERIVED. THE GIVEN ROWS OF THIS SEAT. 1 by the template 'for every input the law returns true; each argument reads behind the call as it read before'; 0 by the template 'total and deterministic' (their statements: YbulkegvaGreatTotals.lean).
  GIVEN WITH THE SEED: the statements are not yours to turn. If you find one false, say at which input.
  Laid BY PROGRAM, IN A SANDBOX (cutbox-rows.mjs): the forced cells as the released guide's own fill.sh prints them over the translation 0e6437d74a47f7c7… (all of the seat's roots in one cut). By AI agents, Wed Nov 11 2026. No macro, syntax, notation, axiom, sorry.
-/
import Derived.Test.YbulkegvaGreatChecked
import GoSem.Claim
import GoSem.ClaimJoined
import GoSem.ClaimMapViews
import Derived.JoinedTies
import Derived.KernelRfl
namespace Go.Proofs.YbulkegvaGreat
/- THE CELL 'sum', in the pinned program and in every row, IS THE sha256 OF THE DUMP (.gsa) THAT YbulkegvaGreatProg.lean LOADS. Nothing in Lean hashes anything: it is a label: what it is worth is what the hold of that sum in a sandbox is worth. -/
noncomputable def Ybaz.pinned : Pinned := { name := "ybulkegvagreat", sum := "0e6437d74a47f7c7afd096c708c8e5734e5c7ef2d9ab741aaacfe8b3823207c5", checked := Ybaz.checked }
namespace Rows
def none {H : Type} : Left H := { results := [], args := [] }

/-- 'testserver.LawS6656AWhole': WHATEVER THE INPUT: true; the input reads as it did. -/
def lawS6656AWholeSpec : ChangeSpec := { name := "lawS6656AWhole", fn := fun _ => fun
  | [d1, d2, d3, d4, d5, d6, d7, d8] => { results := [.lit (.bool true)], args := [d1, d2, d3, d4, d5, d6, d7, d8] }
  | _ => none }
def lawS6656AWholeRow : OpenClaim := { program := "ybulkegvagreat", sum := "0e6437d74a47f7c7afd096c708c8e5734e5c7ef2d9ab741aaacfe8b3823207c5", func := "example.com/sieveline/sieveline/testserver.LawS6656AWhole", spec := "lawS6656AWhole", unfollowed := true, recurses := true, plainKeys := false, apart := false }
def LawS6656AWholeSaid : Prop := lawS6656AWholeRow.holds Ybaz.pinned (OpenSpec.ofChange lawS6656AWholeSpec)

/-- ITS FALSE NEIGHBOUR: 'it returns false'. Refute it at one input. -/
def lawS6656AWholeWrong : ChangeSpec := { name := "lawS6656AWhole", fn := fun _ => fun
  | [d1, d2, d3, d4, d5, d6, d7, d8] => { results := [.lit (.bool false)], args := [d1, d2, d3, d4, d5, d6, d7, d8] }
  | _ => none }
def LawS6656AWholeWrongFalsely : Prop := lawS6656AWholeRow.holds Ybaz.pinned (OpenSpec.ofChange lawS6656AWholeWrong)

end Rows
end Go.Proofs.YbulkegvaGreat
