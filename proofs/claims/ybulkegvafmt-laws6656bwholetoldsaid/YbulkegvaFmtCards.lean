/-
  DERIVED. GIVEN WITH THE SEED: THE CARDS: each row of YbulkegvaFmtRows.lean that lists a variable, with what it lists TIED to the program's text (the seventh form; the later family's looks); each row that meets fmt, with fmt's text TOLD by the authors' own Lean function (tested against real Go, not proved from fmt's source: count such statements apart). THE CARD IS WHAT COUNTS. Prove the row's statement (the work); the ties are given (YbulkegvaFmtTie.lean); close each card by the builder's one call (the guide's Derived/Test/ToyasCard.lean, 'card_holds'). Laid BY PROGRAM, IN A SANDBOX (cutbox-door.mjs). By AI agents, Wed Nov 11 2026. No macro, syntax, notation, axiom, sorry.
-/
import Derived.Test.YbulkegvaFmtRows
import GoSem.ClaimSeven
namespace Go.Proofs.YbulkegvaFmt
namespace Rows

/-- THE TOLD CARD OF 'testserver.LawS6656BWhole'. -/
def lawS6656BWholeCard : Claim7 := { stood := { row := lawS6656BWholeRow, standIns := [], harness := (true, "dc079fdf88b63b8dd7ae1abcf53ce221c972fc4eff4225f4dd6ad3850ab0dfa7"), looks := true }, told := true, goes := false }
def LawS6656BWholeToldSaid : Prop := Claim7.holds Ybaf.pinned (.plain (OpenSpec.ofChange lawS6656BWholeSpec)) lawS6656BWholeCard
/-- ITS FALSE NEIGHBOUR. Refute it at one input. -/
def LawS6656BWholeToldWrongFalsely : Prop := Claim7.holds Ybaf.pinned (.plain (OpenSpec.ofChange lawS6656BWholeWrong)) lawS6656BWholeCard
end Rows
end Go.Proofs.YbulkegvaFmt
