/-
  The numbers under which this dump holds sync.Mutex's functions and types, and that it holds them (Derived/Conc/MuLib.lean): after the pattern of a worked family's text of locks; checked by the kernel.
-/
import Derived.Test.Qxb6615558aProg
import Derived.Conc.RwLib
import Derived.Conc.MuData
import Derived.KernelRfl
namespace Go.Proofs
abbrev Try.muLink : Go.Conc.Locks.MuLink := { lock := 18, unlock := 19, ilock := 22, iunlock := 23, lockSlow := 28, unlockSlow := 31, disable := 24, enable := 26, acquire := 27, relMerge := 29, cas32 := 25, add32 := 30, tMutex := 44, tIMutex := 42, tPMutex := 54, tPIMutex := 55, tPI32 := 57, tUP := 59, tNoCopy := 39, tU32 := 40 }
theorem Try.muLib : Go.Conc.Locks.MuLib Try.prog Try.muLink :=
  ⟨Try.func18, Try.func19, Try.func22, Try.func23, Try.func24, Try.func26, Try.func27, Try.func29, Try.func25, Try.func30, Try.underlying42, Try.runUnderlying42, Try.sizeOf42, Try.isAgg42, Try.zeroValue42, Try.underlying44, Try.runUnderlying44, Try.sizeOf44, Try.isAgg44, Try.zeroValue44, Try.underlying54, Try.runUnderlying54, Try.sizeOf54, Try.isAgg54, Try.zeroValue54, Try.underlying55, Try.runUnderlying55, Try.sizeOf55, Try.isAgg55, Try.zeroValue55, Try.underlying57, Try.runUnderlying57, Try.sizeOf57, Try.isAgg57, Try.zeroValue57, Try.underlying59, Try.runUnderlying59, Try.sizeOf59, Try.isAgg59, Try.zeroValue59, Try.underlying39, Try.runUnderlying39, Try.sizeOf39, Try.isAgg39, Try.zeroValue39, Try.underlying21, Try.runUnderlying21, Try.sizeOf21, Try.isAgg21, Try.zeroValue21, (by kernel_rfl)⟩
end Go.Proofs
