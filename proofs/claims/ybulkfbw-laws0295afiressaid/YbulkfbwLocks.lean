/-
  LawS0295AFires: the numbers under which this program holds sync.Mutex's functions and types. By an AI agent.
-/
import Derived.Test.YbulkfbwRows
import Derived.Conc.MuLone
import Derived.KernelRfl
namespace Go.Proofs.Ybulkfbw.lawS0295AFires
abbrev lockLink : Go.Conc.Locks.MuLink := { lock := 21, unlock := 22, ilock := 29, iunlock := 30, lockSlow := 41, unlockSlow := 44, disable := 37, enable := 39, acquire := 40, relMerge := 42, cas32 := 38, add32 := 43, tMutex := 41, tIMutex := 39, tPMutex := 119, tPIMutex := 143, tPI32 := 145, tUP := 54, tNoCopy := 36, tU32 := 37 }
theorem lockLib : Go.Conc.Locks.MuLib Yba.prog lockLink :=
  ⟨Yba.func21, Yba.func22, Yba.func29, Yba.func30, Yba.func37, Yba.func39, Yba.func40, Yba.func42, Yba.func38, Yba.func43, Yba.underlying39, Yba.runUnderlying39, Yba.sizeOf39, Yba.isAgg39, Yba.zeroValue39, Yba.underlying41, Yba.runUnderlying41, Yba.sizeOf41, Yba.isAgg41, Yba.zeroValue41, Yba.underlying119, Yba.runUnderlying119, Yba.sizeOf119, Yba.isAgg119, Yba.zeroValue119, Yba.underlying143, Yba.runUnderlying143, Yba.sizeOf143, Yba.isAgg143, Yba.zeroValue143, Yba.underlying145, Yba.runUnderlying145, Yba.sizeOf145, Yba.isAgg145, Yba.zeroValue145, Yba.underlying54, Yba.runUnderlying54, Yba.sizeOf54, Yba.isAgg54, Yba.zeroValue54, Yba.underlying36, Yba.runUnderlying36, Yba.sizeOf36, Yba.isAgg36, Yba.zeroValue36, Yba.underlying21, Yba.runUnderlying21, Yba.sizeOf21, Yba.isAgg21, Yba.zeroValue21, (by kernel_rfl)⟩
end Go.Proofs.Ybulkfbw.lawS0295AFires
