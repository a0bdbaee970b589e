/-
  DERIVED. The law at every input.
-/
import Derived.Test.YbulkegvaFmtLawB3
import Derived.Test.YbulkegvaFmtLawB4
import Derived.Test.YbulkegvaFmtZero
namespace Go.Proofs.YbulkegvaFmt
open Go.RowKit Go.Extern.Stop Go.Stop Go.Extern Go.Maps

theorem law_all (F : Interp) (top : Int) (ts : ByteArray) (av : Option Addr) (n cap : Nat) (w : World) (hF : F.answers w.tape) (h0 : 0 ≤ top)
    (htx : ∀ i : Nat, i ≤ 65536 → (FmtStop.textOf (F "fmt.Sprintf" [[109, 101, 116, 97, 100, 97, 116, 97, 46, 111, 119, 110, 101, 114, 82, 101, 102, 101, 114, 101, 110, 99, 101, 115, 91, 37, 100, 93], Ybaf.shape3, Go.Extern.Stop.digits 8 ((i : Int) % 18446744073709551616).toNat] 0)).size ≤ 100)
    (hm : n = 0 ∨ ∃ (ab ao : Nat) (Ms : List Mem), av = some ⟨ab, ao, none⟩ ∧ n = Ms.length ∧ Held Ms ab ao w ∧ ∀ (i : Nat) (m : Mem), Ms[i]? = some m → m.Ok) :
    Calls Ybaf.prog 3 #[.int .u8 top, .string ts, .slice av n cap] w fun e w' => e = .returned (.bool true) ∧ Below w.heap.size w w' := by
  by_cases hb : 65536 < n
  · exact (law_big top ts av n cap w hb).mono fun e w' ⟨he, hw⟩ => ⟨he, hw ▸ Below.refl _ _⟩
  have hn : n ≤ 65536 := by omega
  have h5 : top.tmod 5 = 0 ∨ top.tmod 5 = 1 ∨ top.tmod 5 = 2 ∨ top.tmod 5 = 3 ∨ top.tmod 5 = 4 := by
    rw [Int.tmod_eq_emod_of_nonneg h0]
    omega
  rcases h5 with hs | hs | hs | hs | hs
  · exact law_0 top ts av n cap w hn hs
  · exact law_1 top ts av n cap w hn hs
  · exact law_2 F top ts av n cap w hF hn hs
  · rcases hm with rfl | ⟨ab, ao, Ms, rfl, hl, hH, hok⟩
    · exact law_zero3 F top ts av cap w hF hs htx
    · exact law_arr3 F Ms top ts ab ao n cap w hF hn hl hs hH hok htx
  · rcases hm with rfl | ⟨ab, ao, Ms, rfl, hl, hH, hok⟩
    · exact law_zero4 F top ts av cap w hF hs htx
    · exact law_arr4 F Ms top ts ab ao n cap w hF hn hl hs hH hok htx

end Go.Proofs.YbulkegvaFmt
