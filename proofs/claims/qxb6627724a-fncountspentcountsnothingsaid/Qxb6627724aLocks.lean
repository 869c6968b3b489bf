/-
  Seat b6627724a. The numbers under which this program holds the library's lock, and that it holds it (after the guide's 6u: StatsLocks).
-/
import Derived.Test.Qxb6627724aRows
import Derived.Conc.RwLib
import Derived.Conc.MuData
import Derived.KernelRfl
namespace Go.Proofs.Qxb6627724a
abbrev Try.muLink : Go.Conc.Locks.MuLink := { lock := 26, unlock := 27, ilock := 31, iunlock := 32, lockSlow := 38, unlockSlow := 41, disable := 34, enable := 36, acquire := 37, relMerge := 39, cas32 := 35, add32 := 40, tMutex := 48, tIMutex := 46, tPMutex := 68, tPIMutex := 70, tPI32 := 72, tUP := 74, tNoCopy := 44, tU32 := 38 }
theorem Try.muLib : Go.Conc.Locks.MuLib Try.prog Try.muLink :=
  ⟨Try.func26, Try.func27, Try.func31, Try.func32, Try.func34, Try.func36, Try.func37, Try.func39, Try.func35, Try.func40, Try.underlying46, Try.runUnderlying46, Try.sizeOf46, Try.isAgg46, Try.zeroValue46, Try.underlying48, Try.runUnderlying48, Try.sizeOf48, Try.isAgg48, Try.zeroValue48, Try.underlying68, Try.runUnderlying68, Try.sizeOf68, Try.isAgg68, Try.zeroValue68, Try.underlying70, Try.runUnderlying70, Try.sizeOf70, Try.isAgg70, Try.zeroValue70, Try.underlying72, Try.runUnderlying72, Try.sizeOf72, Try.isAgg72, Try.zeroValue72, Try.underlying74, Try.runUnderlying74, Try.sizeOf74, Try.isAgg74, Try.zeroValue74, Try.underlying44, Try.runUnderlying44, Try.sizeOf44, Try.isAgg44, Try.zeroValue44, Try.underlying21, Try.runUnderlying21, Try.sizeOf21, Try.isAgg21, Try.zeroValue21, (by kernel_rfl)⟩
end Go.Proofs.Qxb6627724a
