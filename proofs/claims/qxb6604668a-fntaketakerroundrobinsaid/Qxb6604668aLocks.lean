/-
  The numbers under which this dump holds sync.Mutex's functions and types, and that it holds them (Derived/Conc/MuLib.lean). Checked by the kernel as it is compiled.
-/
import Derived.Test.Qxb6604668aProg
import Derived.Conc.MuLib
import Derived.Conc.MuLone
import Derived.KernelRfl
namespace Go.Proofs.Qxb6604668a
abbrev muLink : Go.Conc.Locks.MuLink := { lock := 37, unlock := 38, ilock := 39, iunlock := 40, lockSlow := 45, unlockSlow := 48, disable := 41, enable := 43, acquire := 44, relMerge := 46, cas32 := 42, add32 := 47, tMutex := 93, tIMutex := 91, tPMutex := 110, tPIMutex := 111, tPI32 := 109, tUP := 114, tNoCopy := 89, tU32 := 84 }
theorem muLib : Go.Conc.Locks.MuLib Try.prog muLink :=
  ⟨Try.func37, Try.func38, Try.func39, Try.func40, Try.func41, Try.func43, Try.func44, Try.func46, Try.func42, Try.func47, Try.underlying91, Try.runUnderlying91, Try.sizeOf91, Try.isAgg91, Try.zeroValue91, Try.underlying93, Try.runUnderlying93, Try.sizeOf93, Try.isAgg93, Try.zeroValue93, Try.underlying110, Try.runUnderlying110, Try.sizeOf110, Try.isAgg110, Try.zeroValue110, Try.underlying111, Try.runUnderlying111, Try.sizeOf111, Try.isAgg111, Try.zeroValue111, Try.underlying109, Try.runUnderlying109, Try.sizeOf109, Try.isAgg109, Try.zeroValue109, Try.underlying114, Try.runUnderlying114, Try.sizeOf114, Try.isAgg114, Try.zeroValue114, Try.underlying89, Try.runUnderlying89, Try.sizeOf89, Try.isAgg89, Try.zeroValue89, Try.underlying21, Try.runUnderlying21, Try.sizeOf21, Try.isAgg21, Try.zeroValue21, (by kernel_rfl)⟩
end Go.Proofs.Qxb6604668a
