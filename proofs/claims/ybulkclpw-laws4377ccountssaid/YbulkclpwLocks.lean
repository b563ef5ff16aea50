/-
  The numbers under which this dump holds sync.Mutex's functions and types, and that it holds them. Typed by hand after the worked example toys/stats.
-/
import Derived.Test.YbulkclpwProg
import Derived.Conc.RwLib
import Derived.Conc.MuData
import Derived.KernelRfl
namespace Go.Proofs
abbrev Yba.muLink : Go.Conc.Locks.MuLink := { lock := 9, unlock := 8, ilock := 12, iunlock := 11, lockSlow := 20, unlockSlow := 19, disable := 13, enable := 14, acquire := 16, relMerge := 17, cas32 := 15, add32 := 18, tMutex := 46, tIMutex := 44, tPMutex := 73, tPIMutex := 74, tPI32 := 76, tUP := 78, tNoCopy := 41, tU32 := 42 }
theorem Yba.muLib : Go.Conc.Locks.MuLib Yba.prog Yba.muLink :=
  ⟨Yba.func9, Yba.func8, Yba.func12, Yba.func11, Yba.func13, Yba.func14, Yba.func16, Yba.func17, Yba.func15, Yba.func18, Yba.underlying44, Yba.runUnderlying44, Yba.sizeOf44, Yba.isAgg44, Yba.zeroValue44, Yba.underlying46, Yba.runUnderlying46, Yba.sizeOf46, Yba.isAgg46, Yba.zeroValue46, Yba.underlying73, Yba.runUnderlying73, Yba.sizeOf73, Yba.isAgg73, Yba.zeroValue73, Yba.underlying74, Yba.runUnderlying74, Yba.sizeOf74, Yba.isAgg74, Yba.zeroValue74, Yba.underlying76, Yba.runUnderlying76, Yba.sizeOf76, Yba.isAgg76, Yba.zeroValue76, Yba.underlying78, Yba.runUnderlying78, Yba.sizeOf78, Yba.isAgg78, Yba.zeroValue78, Yba.underlying41, Yba.runUnderlying41, Yba.sizeOf41, Yba.isAgg41, Yba.zeroValue41, Yba.underlying21, Yba.runUnderlying21, Yba.sizeOf21, Yba.isAgg21, Yba.zeroValue21, (by kernel_rfl)⟩
end Go.Proofs
