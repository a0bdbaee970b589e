/-
  The numbers under which this dump holds sync.Mutex's functions and types (typed by hand after the guide's toy 'stats'; the kernel checks each), and TryLock at a lock that is free.
-/
import Derived.Test.YbulkegtkProg
import Derived.Conc.MuLone
import Derived.KernelRfl
import Derived.WalkKit
import Derived.WalkSpells
namespace Go.Proofs.Ybulkegtk
open Go.Conc.Locks Go.MuLone Go.RowKit

abbrev muLink : MuLink := { lock := 7, unlock := 6, ilock := 10, iunlock := 9, lockSlow := 18, unlockSlow := 17, disable := 11, enable := 12, acquire := 14, relMerge := 15, cas32 := 13, add32 := 16, tMutex := 45, tIMutex := 43, tPMutex := 53, tPIMutex := 54, tPI32 := 56, tUP := 58, tNoCopy := 40, tU32 := 41 }
theorem muLib : MuLib Yba.prog muLink :=
  ⟨Yba.func7, Yba.func6, Yba.func10, Yba.func9, Yba.func11, Yba.func12, Yba.func14, Yba.func15, Yba.func13, Yba.func16, Yba.underlying43, Yba.runUnderlying43, Yba.sizeOf43, Yba.isAgg43, Yba.zeroValue43, Yba.underlying45, Yba.runUnderlying45, Yba.sizeOf45, Yba.isAgg45, Yba.zeroValue45, Yba.underlying53, Yba.runUnderlying53, Yba.sizeOf53, Yba.isAgg53, Yba.zeroValue53, Yba.underlying54, Yba.runUnderlying54, Yba.sizeOf54, Yba.isAgg54, Yba.zeroValue54, Yba.underlying56, Yba.runUnderlying56, Yba.sizeOf56, Yba.isAgg56, Yba.zeroValue56, Yba.underlying58, Yba.runUnderlying58, Yba.sizeOf58, Yba.isAgg58, Yba.zeroValue58, Yba.underlying40, Yba.runUnderlying40, Yba.sizeOf40, Yba.isAgg40, Yba.zeroValue40, Yba.underlying21, Yba.runUnderlying21, Yba.sizeOf21, Yba.isAgg21, Yba.zeroValue21, (by kernel_rfl)⟩

set_option maxRecDepth 20000 in
set_option maxHeartbeats 800000 in
/-- '(*internal/sync.Mutex).TryLock', the lock free (state 0): it is taken (state 1), and the answer is true. -/
theorem itry_free (a : Addr) (w : World) (hc : w.cell? a = some (.int .i32 0)) (hz : w.frozen? a = false) :
    Calls Yba.prog 8 #[.pointer (some a)] w fun e w' => e = .returned (.bool true) ∧ w' = w.setCell a (.int .i32 1) := by
  have hd : ∀ w, (callFunc 11 #[]).run Yba.prog w = .ok (.value (.tuple #[])) w := disable muLib
  have he : ∀ w, (callFunc 12 #[]).run Yba.prog w = .ok (.value (.tuple #[])) w := enable muLib
  have hq : ∀ a w, (callFunc 14 #[.pointer (some a)]).run Yba.prog w = .ok (.value (.tuple #[])) w := acquire muLib
  have hcs := run_call_cas_hit (P := Yba.prog) Yba.func13 (by kernel_rfl) (by kernel_rfl) (by kernel_rfl) .i32 (by kernel_rfl) (y := 1) hc hz
  have hc1 : (w.setCell a (.int .i32 1)).cell? a = some (.int .i32 1) := World.cell?_setCell_same w a _ hc
  have hcv := run_convert_to_unsafe (P := Yba.prog) (src := 54) (dst := 58) Yba.underlying54 Yba.underlying58 muLib.room_tIMutex hc1
  have b1 : bits .and .i32 0 5 = 0 := by decide
  have b2 : bits .or .i32 0 1 = 1 := by decide
  go_enter Yba.func8, Yba.ntmps8
  go_wp2
  go_ret
  exact ⟨rfl, rfl⟩

set_option maxRecDepth 20000 in
set_option maxHeartbeats 800000 in
/-- '(*sync.Mutex).TryLock', the lock free. -/
theorem try_free (a : Addr) (w : World) (hc : w.cell? a = some (.int .i32 0)) (hz : w.frozen? a = false) :
    Calls Yba.prog 5 #[.pointer (some a)] w fun e w' => e = .returned (.bool true) ∧ w' = w.setCell a (.int .i32 1) := by
  go_enter Yba.func5, Yba.ntmps5
  go_wp2_with (go_at_call 8; refine (itry_free a _ hc hz).mono ?_; rintro e w' ⟨rfl, rfl⟩)
  go_ret
  exact ⟨rfl, rfl⟩

theorem lock (a : Addr) (w : World) (hc : w.cell? a = some (.int .i32 0)) (hz : w.frozen? a = false) :
    Calls Yba.prog 7 #[.pointer (some a)] w fun e w' => e = .returned (.tuple #[]) ∧ w' = w.setCell a (.int .i32 1) := lock_free muLib a w hc hz
theorem unlock (a : Addr) (w : World) (hc : w.cell? a = some (.int .i32 1)) (hz : w.frozen? a = false) :
    Calls Yba.prog 6 #[.pointer (some a)] w fun e w' => e = .returned (.tuple #[]) ∧ w' = w.setCell a (.int .i32 0) := unlock_held muLib a w hc hz
end Go.Proofs.Ybulkegtk
