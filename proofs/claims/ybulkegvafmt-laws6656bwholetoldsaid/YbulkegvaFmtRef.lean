/-
  DERIVED. zzs6656bref: by its contract.
-/
import Derived.Test.YbulkegvaFmtRef0
import Derived.Test.YbulkegvaFmtRef1
import Derived.Test.YbulkegvaFmtRef2
import Derived.Test.YbulkegvaFmtRef3
set_option linter.unusedVariables false
namespace Go.Proofs.YbulkegvaFmt
open Go.RowKit Go.Extern.Stop Go.Stop Go.Extern

def Mem.str (t : Int) (s : ByteArray) : ByteArray := if t.tmod 4 = 2 then s else ⟨#[]⟩
def Mem.ref (m : Mem) : Array Value :=
  if m.k.tmod 4 = 2 then #[.string ⟨#[]⟩, .string ⟨#[]⟩, .string ⟨#[]⟩, .string ⟨#[]⟩, .bool false]
  else #[.string (Mem.str m.t0 m.s0), .string (Mem.str m.t1 m.s1), .string (Mem.str m.t2 m.s2), .string (Mem.str m.t3 m.s3), .bool (if m.ct.tmod 4 = 2 then m.cb else false)]

theorem ref_c (m : Mem) (w : World) : Calls Ybaf.prog 7 #[.agg m.cells] w fun e w' => e = .returned (.agg m.ref) ∧ Below w.heap.size w w' := by
  obtain ⟨k, t0, s0, t1, s1, t2, s2, t3, s3, ct, cb, bt, bb⟩ := m
  unfold Mem.cells Mem.ref Mem.str
  by_cases h2 : k.tmod 4 = 2
  · simp only [h2, if_true]
    exact ref_2 k t0 t1 t2 t3 ct bt s0 s1 s2 s3 cb bb w h2
  simp only [h2, if_false]
  by_cases g0 : t0.tmod 4 = 2
  · simp only [g0, if_true]
    by_cases g1 : t1.tmod 4 = 2
    · simp only [g1, if_true]
      by_cases g2 : t2.tmod 4 = 2
      · simp only [g2, if_true]
        by_cases g3 : t3.tmod 4 = 2
        · simp only [g3, if_true]
          by_cases g4 : ct.tmod 4 = 2
          · simp only [g4, if_true]
            exact ref_yyyyy k t0 t1 t2 t3 ct bt s0 s1 s2 s3 cb bb w h2 g0 g1 g2 g3 g4
          · simp only [g4, if_false]
            exact ref_yyyyn k t0 t1 t2 t3 ct bt s0 s1 s2 s3 cb bb w h2 g0 g1 g2 g3 g4
        · simp only [g3, if_false]
          by_cases g4 : ct.tmod 4 = 2
          · simp only [g4, if_true]
            exact ref_yyyny k t0 t1 t2 t3 ct bt s0 s1 s2 s3 cb bb w h2 g0 g1 g2 g3 g4
          · simp only [g4, if_false]
            exact ref_yyynn k t0 t1 t2 t3 ct bt s0 s1 s2 s3 cb bb w h2 g0 g1 g2 g3 g4
      · simp only [g2, if_false]
        by_cases g3 : t3.tmod 4 = 2
        · simp only [g3, if_true]
          by_cases g4 : ct.tmod 4 = 2
          · simp only [g4, if_true]
            exact ref_yynyy k t0 t1 t2 t3 ct bt s0 s1 s2 s3 cb bb w h2 g0 g1 g2 g3 g4
          · simp only [g4, if_false]
            exact ref_yynyn k t0 t1 t2 t3 ct bt s0 s1 s2 s3 cb bb w h2 g0 g1 g2 g3 g4
        · simp only [g3, if_false]
          by_cases g4 : ct.tmod 4 = 2
          · simp only [g4, if_true]
            exact ref_yynny k t0 t1 t2 t3 ct bt s0 s1 s2 s3 cb bb w h2 g0 g1 g2 g3 g4
          · simp only [g4, if_false]
            exact ref_yynnn k t0 t1 t2 t3 ct bt s0 s1 s2 s3 cb bb w h2 g0 g1 g2 g3 g4
    · simp only [g1, if_false]
      by_cases g2 : t2.tmod 4 = 2
      · simp only [g2, if_true]
        by_cases g3 : t3.tmod 4 = 2
        · simp only [g3, if_true]
          by_cases g4 : ct.tmod 4 = 2
          · simp only [g4, if_true]
            exact ref_ynyyy k t0 t1 t2 t3 ct bt s0 s1 s2 s3 cb bb w h2 g0 g1 g2 g3 g4
          · simp only [g4, if_false]
            exact ref_ynyyn k t0 t1 t2 t3 ct bt s0 s1 s2 s3 cb bb w h2 g0 g1 g2 g3 g4
        · simp only [g3, if_false]
          by_cases g4 : ct.tmod 4 = 2
          · simp only [g4, if_true]
            exact ref_ynyny k t0 t1 t2 t3 ct bt s0 s1 s2 s3 cb bb w h2 g0 g1 g2 g3 g4
          · simp only [g4, if_false]
            exact ref_ynynn k t0 t1 t2 t3 ct bt s0 s1 s2 s3 cb bb w h2 g0 g1 g2 g3 g4
      · simp only [g2, if_false]
        by_cases g3 : t3.tmod 4 = 2
        · simp only [g3, if_true]
          by_cases g4 : ct.tmod 4 = 2
          · simp only [g4, if_true]
            exact ref_ynnyy k t0 t1 t2 t3 ct bt s0 s1 s2 s3 cb bb w h2 g0 g1 g2 g3 g4
          · simp only [g4, if_false]
            exact ref_ynnyn k t0 t1 t2 t3 ct bt s0 s1 s2 s3 cb bb w h2 g0 g1 g2 g3 g4
        · simp only [g3, if_false]
          by_cases g4 : ct.tmod 4 = 2
          · simp only [g4, if_true]
            exact ref_ynnny k t0 t1 t2 t3 ct bt s0 s1 s2 s3 cb bb w h2 g0 g1 g2 g3 g4
          · simp only [g4, if_false]
            exact ref_ynnnn k t0 t1 t2 t3 ct bt s0 s1 s2 s3 cb bb w h2 g0 g1 g2 g3 g4
  · simp only [g0, if_false]
    by_cases g1 : t1.tmod 4 = 2
    · simp only [g1, if_true]
      by_cases g2 : t2.tmod 4 = 2
      · simp only [g2, if_true]
        by_cases g3 : t3.tmod 4 = 2
        · simp only [g3, if_true]
          by_cases g4 : ct.tmod 4 = 2
          · simp only [g4, if_true]
            exact ref_nyyyy k t0 t1 t2 t3 ct bt s0 s1 s2 s3 cb bb w h2 g0 g1 g2 g3 g4
          · simp only [g4, if_false]
            exact ref_nyyyn k t0 t1 t2 t3 ct bt s0 s1 s2 s3 cb bb w h2 g0 g1 g2 g3 g4
        · simp only [g3, if_false]
          by_cases g4 : ct.tmod 4 = 2
          · simp only [g4, if_true]
            exact ref_nyyny k t0 t1 t2 t3 ct bt s0 s1 s2 s3 cb bb w h2 g0 g1 g2 g3 g4
          · simp only [g4, if_false]
            exact ref_nyynn k t0 t1 t2 t3 ct bt s0 s1 s2 s3 cb bb w h2 g0 g1 g2 g3 g4
      · simp only [g2, if_false]
        by_cases g3 : t3.tmod 4 = 2
        · simp only [g3, if_true]
          by_cases g4 : ct.tmod 4 = 2
          · simp only [g4, if_true]
            exact ref_nynyy k t0 t1 t2 t3 ct bt s0 s1 s2 s3 cb bb w h2 g0 g1 g2 g3 g4
          · simp only [g4, if_false]
            exact ref_nynyn k t0 t1 t2 t3 ct bt s0 s1 s2 s3 cb bb w h2 g0 g1 g2 g3 g4
        · simp only [g3, if_false]
          by_cases g4 : ct.tmod 4 = 2
          · simp only [g4, if_true]
            exact ref_nynny k t0 t1 t2 t3 ct bt s0 s1 s2 s3 cb bb w h2 g0 g1 g2 g3 g4
          · simp only [g4, if_false]
            exact ref_nynnn k t0 t1 t2 t3 ct bt s0 s1 s2 s3 cb bb w h2 g0 g1 g2 g3 g4
    · simp only [g1, if_false]
      by_cases g2 : t2.tmod 4 = 2
      · simp only [g2, if_true]
        by_cases g3 : t3.tmod 4 = 2
        · simp only [g3, if_true]
          by_cases g4 : ct.tmod 4 = 2
          · simp only [g4, if_true]
            exact ref_nnyyy k t0 t1 t2 t3 ct bt s0 s1 s2 s3 cb bb w h2 g0 g1 g2 g3 g4
          · simp only [g4, if_false]
            exact ref_nnyyn k t0 t1 t2 t3 ct bt s0 s1 s2 s3 cb bb w h2 g0 g1 g2 g3 g4
        · simp only [g3, if_false]
          by_cases g4 : ct.tmod 4 = 2
          · simp only [g4, if_true]
            exact ref_nnyny k t0 t1 t2 t3 ct bt s0 s1 s2 s3 cb bb w h2 g0 g1 g2 g3 g4
          · simp only [g4, if_false]
            exact ref_nnynn k t0 t1 t2 t3 ct bt s0 s1 s2 s3 cb bb w h2 g0 g1 g2 g3 g4
      · simp only [g2, if_false]
        by_cases g3 : t3.tmod 4 = 2
        · simp only [g3, if_true]
          by_cases g4 : ct.tmod 4 = 2
          · simp only [g4, if_true]
            exact ref_nnnyy k t0 t1 t2 t3 ct bt s0 s1 s2 s3 cb bb w h2 g0 g1 g2 g3 g4
          · simp only [g4, if_false]
            exact ref_nnnyn k t0 t1 t2 t3 ct bt s0 s1 s2 s3 cb bb w h2 g0 g1 g2 g3 g4
        · simp only [g3, if_false]
          by_cases g4 : ct.tmod 4 = 2
          · simp only [g4, if_true]
            exact ref_nnnny k t0 t1 t2 t3 ct bt s0 s1 s2 s3 cb bb w h2 g0 g1 g2 g3 g4
          · simp only [g4, if_false]
            exact ref_nnnnn k t0 t1 t2 t3 ct bt s0 s1 s2 s3 cb bb w h2 g0 g1 g2 g3 g4

end Go.Proofs.YbulkegvaFmt
