/- The numbers under which this program's translation holds sync.Mutex's functions and types, and that it holds them. -/
import Derived.Test.YbulkchaiProg
import Derived.Conc.MuLib
import Derived.KernelRfl
namespace Go.Proofs
abbrev Yba.muLink : Go.Conc.Locks.MuLink := { lock := 10, unlock := 11, ilock := 13, iunlock := 14, lockSlow := 19, unlockSlow := 22, disable := 15, enable := 17, acquire := 18, relMerge := 20, cas32 := 16, add32 := 21, tMutex := 31, tIMutex := 29, tPMutex := 45, tPIMutex := 46, tPI32 := 48, tUP := 50, tNoCopy := 26, tU32 := 27 }
theorem Yba.muLib : Go.Conc.Locks.MuLib Yba.prog Yba.muLink :=
  ⟨Yba.func10, Yba.func11, Yba.func13, Yba.func14, Yba.func15, Yba.func17, Yba.func18, Yba.func20, Yba.func16, Yba.func21, Yba.underlying29, Yba.runUnderlying29, Yba.sizeOf29, Yba.isAgg29, Yba.zeroValue29, Yba.underlying31, Yba.runUnderlying31, Yba.sizeOf31, Yba.isAgg31, Yba.zeroValue31, Yba.underlying45, Yba.runUnderlying45, Yba.sizeOf45, Yba.isAgg45, Yba.zeroValue45, Yba.underlying46, Yba.runUnderlying46, Yba.sizeOf46, Yba.isAgg46, Yba.zeroValue46, Yba.underlying48, Yba.runUnderlying48, Yba.sizeOf48, Yba.isAgg48, Yba.zeroValue48, Yba.underlying50, Yba.runUnderlying50, Yba.sizeOf50, Yba.isAgg50, Yba.zeroValue50, Yba.underlying26, Yba.runUnderlying26, Yba.sizeOf26, Yba.isAgg26, Yba.zeroValue26, Yba.underlying21, Yba.runUnderlying21, Yba.sizeOf21, Yba.isAgg21, Yba.zeroValue21, (by kernel_rfl)⟩
end Go.Proofs
