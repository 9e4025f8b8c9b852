/-
  Seat b6311a: the numbers under which this dump holds sync.Mutex's functions and types, that it holds them, and the contract of TryLock on a free lock.
-/
import Derived.Test.YbulkdzrgRows
import Derived.Conc.MuLone
import Derived.WalkKit
import Derived.KernelRfl
namespace Go.Proofs.Ybulkdzrg
open Go.MuLone

abbrev Yba.muLink : Go.Conc.Locks.MuLink := { lock := 10, unlock := 9, ilock := 14, iunlock := 13, lockSlow := 22, unlockSlow := 21, disable := 15, enable := 16, acquire := 18, relMerge := 19, cas32 := 17, add32 := 20, tMutex := 74, tIMutex := 72, tPMutex := 104, tPIMutex := 105, tPI32 := 107, tUP := 109, tNoCopy := 61, tU32 := 66 }
theorem Yba.muLib : Go.Conc.Locks.MuLib Yba.prog Yba.muLink :=
  ⟨Yba.func10, Yba.func9, Yba.func14, Yba.func13, Yba.func15, Yba.func16, Yba.func18, Yba.func19, Yba.func17, Yba.func20, Yba.underlying72, Yba.runUnderlying72, Yba.sizeOf72, Yba.isAgg72, Yba.zeroValue72, Yba.underlying74, Yba.runUnderlying74, Yba.sizeOf74, Yba.isAgg74, Yba.zeroValue74, Yba.underlying104, Yba.runUnderlying104, Yba.sizeOf104, Yba.isAgg104, Yba.zeroValue104, Yba.underlying105, Yba.runUnderlying105, Yba.sizeOf105, Yba.isAgg105, Yba.zeroValue105, Yba.underlying107, Yba.runUnderlying107, Yba.sizeOf107, Yba.isAgg107, Yba.zeroValue107, Yba.underlying109, Yba.runUnderlying109, Yba.sizeOf109, Yba.isAgg109, Yba.zeroValue109, Yba.underlying61, Yba.runUnderlying61, Yba.sizeOf61, Yba.isAgg61, Yba.zeroValue61, Yba.underlying21, Yba.runUnderlying21, Yba.sizeOf21, Yba.isAgg21, Yba.zeroValue21, (by kernel_rfl)⟩

set_option maxRecDepth 100000 in
set_option maxHeartbeats 800000 in
/-- '(*internal/sync.Mutex).TryLock' on a free lock: it is taken. -/
theorem itry_free (a : Addr) (w : World) (hc : w.cell? a = some (.int .i32 0)) (hz : w.frozen? a = false) :
    Calls Yba.prog 12 #[.pointer (some a)] w fun e w' => e = .returned (.bool true) ∧ w' = w.setCell a (.int .i32 1) := by
  have hd := disable Yba.muLib
  have he := enable Yba.muLib
  have hq := acquire Yba.muLib
  have hcv := run_convert_to_unsafe (P := Yba.prog) (src := 105) (dst := 109) Yba.underlying105 Yba.underlying109 Yba.muLib.room_tIMutex (World.cell?_setCell_same w a (.int .i32 1) hc)
  have hcas := run_call_cas_hit (P := Yba.prog) Yba.muLib.f_cas32 (by kernel_rfl) (by kernel_rfl) (by kernel_rfl) .i32 (by kernel_rfl) (x := 0) (y := 1) hc hz
  go_enter Yba.func12, Yba.ntmps12
  go_wp2
  go_ret
  exact ⟨rfl, rfl⟩

set_option maxRecDepth 100000 in
/-- '(*sync.Mutex).TryLock' on a free lock: it is taken. -/
theorem try_free (a : Addr) (w : World) (hc : w.cell? a = some (.int .i32 0)) (hz : w.frozen? a = false) :
    Calls Yba.prog 8 #[.pointer (some a)] w fun e w' => e = .returned (.bool true) ∧ w' = w.setCell a (.int .i32 1) := by
  go_enter Yba.func8, Yba.ntmps8
  go_wp2_with (go_at_call 12; refine (itry_free a _ hc hz).mono ?_; rintro e w' ⟨rfl, rfl⟩)
  go_ret
  exact ⟨rfl, rfl⟩

end Go.Proofs.Ybulkdzrg
