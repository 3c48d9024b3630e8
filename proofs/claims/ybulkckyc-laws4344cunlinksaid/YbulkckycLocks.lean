import Derived.Test.YbulkckycProg
import Derived.Conc.MuLone
import Derived.KernelRfl
namespace Go.Proofs
/-- the numbers under which this dump holds sync.Mutex's functions and types -/
abbrev Yba.muLink : Go.Conc.Locks.MuLink := { lock := 6, unlock := 8, ilock := 12, iunlock := 14, lockSlow := 25, unlockSlow := 32, disable := 21, enable := 23, acquire := 24, relMerge := 30, cas32 := 22, add32 := 31, tMutex := 46, tIMutex := 44, tPMutex := 86, tPIMutex := 100, tPI32 := 102, tUP := 59, tNoCopy := 41, tU32 := 42 }
theorem Yba.muLib : Go.Conc.Locks.MuLib Yba.prog Yba.muLink :=
  ⟨Yba.func6, Yba.func8, Yba.func12, Yba.func14, Yba.func21, Yba.func23, Yba.func24, Yba.func30, Yba.func22, Yba.func31, Yba.underlying44, Yba.runUnderlying44, Yba.sizeOf44, Yba.isAgg44, Yba.zeroValue44, Yba.underlying46, Yba.runUnderlying46, Yba.sizeOf46, Yba.isAgg46, Yba.zeroValue46, Yba.underlying86, Yba.runUnderlying86, Yba.sizeOf86, Yba.isAgg86, Yba.zeroValue86, Yba.underlying100, Yba.runUnderlying100, Yba.sizeOf100, Yba.isAgg100, Yba.zeroValue100, Yba.underlying102, Yba.runUnderlying102, Yba.sizeOf102, Yba.isAgg102, Yba.zeroValue102, Yba.underlying59, Yba.runUnderlying59, Yba.sizeOf59, Yba.isAgg59, Yba.zeroValue59, Yba.underlying41, Yba.runUnderlying41, Yba.sizeOf41, Yba.isAgg41, Yba.zeroValue41, Yba.underlying21, Yba.runUnderlying21, Yba.sizeOf21, Yba.isAgg21, Yba.zeroValue21, (by kernel_rfl)⟩
end Go.Proofs
