/-
  DERIVED. The text that names a member is short: at most 100 bytes.
-/
import Derived.Test.YbulkegvaFmtFmt
import Derived.ProofKit
import Derived.Stop.JoinedAt
import Derived.Stop.Texts
import Derived.Stop.JoinedTold
import Derived.Stop.FmtTextKit
namespace Go.Proofs.YbulkegvaFmt
open Go.Extern.Stop Go.Stop Go.Extern

theorem t_parse : (FmtText.parse [109, 101, 116, 97, 100, 97, 116, 97, 46, 111, 119, 110, 101, 114, 82, 101, 102, 101, 114, 101, 110, 99, 101, 115, 91, 37, 100, 93]).map FmtText.glue = some [.lit [109, 101, 116, 97, 100, 97, 116, 97, 46, 111, 119, 110, 101, 114, 82, 101, 102, 101, 114, 101, 110, 99, 101, 115, 91], .verb {} 100, .lit [93]] := by rfl

theorem t_text (i : Int) (hw : (Lit.int .i64 i).wf = true) : FmtText.text "fmt.Sprintf" [[109, 101, 116, 97, 100, 97, 116, 97, 46, 111, 119, 110, 101, 114, 82, 101, 102, 101, 114, 101, 110, 99, 101, 115, 91, 37, 100, 93], Ybaf.shape3, Go.Extern.Stop.digits 8 (i % 18446744073709551616).toNat] =
    some ([109, 101, 116, 97, 100, 97, 116, 97, 46, 111, 119, 110, 101, 114, 82, 101, 102, 101, 114, 101, 110, 99, 101, 115, 91] ++ Lib.itoa i ++ [93]) := by
  have hi := FmtText.operand_int_at (sh := Ybaf.shape3) (k := .i64) rfl rfl i hw
  rw [FmtText.text_sprintf_glued t_parse (FmtText.operands_cons hi FmtText.operands_nil)]
  simp [FmtText.render, FmtText.printArg_d _ _ hw]

theorem text_short (F : Interp) (i : Nat) (hi : i ≤ 65536) : (FmtStop.textOf (F.told "fmt.Sprintf" [[109, 101, 116, 97, 100, 97, 116, 97, 46, 111, 119, 110, 101, 114, 82, 101, 102, 101, 114, 101, 110, 99, 101, 115, 91, 37, 100, 93], Ybaf.shape3, Go.Extern.Stop.digits 8 ((i : Int) % 18446744073709551616).toNat] 0)).size ≤ 100 := by
  have hw : (Lit.int .i64 (i : Int)).wf = true := by simp [Lit.wf, IntKind.min, IntKind.max, IntKind.signed, IntKind.bits]; omega
  have hl := FmtText.itoa_length_le hw
  have ht := told_string F (t_text i hw) (by simp; omega)
  have e := Kit.textOf_list F.told "fmt.Sprintf" [[109, 101, 116, 97, 100, 97, 116, 97, 46, 111, 119, 110, 101, 114, 82, 101, 102, 101, 114, 101, 110, 99, 101, 115, 91, 37, 100, 93], Ybaf.shape3, Go.Extern.Stop.digits 8 ((i : Int) % 18446744073709551616).toNat]
  rw [ht] at e
  have e2 := congrArg List.length e
  simp at e2
  omega

end Go.Proofs.YbulkegvaFmt
