/-
  The numbers under which this program's translation holds sync.Mutex's functions and types, and that it holds them (after the kit's Derived/Conc/MuLib.lean). Every number is checked as the text is compiled.
-/
import Derived.Test.YbulkcunkProg
import Derived.Conc.MuLib
import Derived.KernelRfl
namespace Go.Proofs
abbrev Yba.muLink : Go.Conc.Locks.MuLink := { lock := 9, unlock := 10, ilock := 13, iunlock := 14, lockSlow := 19, unlockSlow := 22, disable := 15, enable := 17, acquire := 18, relMerge := 20, cas32 := 16, add32 := 21, tMutex := 30, tIMutex := 28, tPMutex := 50, tPIMutex := 51, tPI32 := 53, tUP := 55, tNoCopy := 25, tU32 := 26 }
theorem Yba.muLib : Go.Conc.Locks.MuLib Yba.prog Yba.muLink :=
  ⟨Yba.func9, Yba.func10, Yba.func13, Yba.func14, Yba.func15, Yba.func17, Yba.func18, Yba.func20, Yba.func16, Yba.func21, Yba.underlying28, Yba.runUnderlying28, Yba.sizeOf28, Yba.isAgg28, Yba.zeroValue28, Yba.underlying30, Yba.runUnderlying30, Yba.sizeOf30, Yba.isAgg30, Yba.zeroValue30, Yba.underlying50, Yba.runUnderlying50, Yba.sizeOf50, Yba.isAgg50, Yba.zeroValue50, Yba.underlying51, Yba.runUnderlying51, Yba.sizeOf51, Yba.isAgg51, Yba.zeroValue51, Yba.underlying53, Yba.runUnderlying53, Yba.sizeOf53, Yba.isAgg53, Yba.zeroValue53, Yba.underlying55, Yba.runUnderlying55, Yba.sizeOf55, Yba.isAgg55, Yba.zeroValue55, Yba.underlying25, Yba.runUnderlying25, Yba.sizeOf25, Yba.isAgg25, Yba.zeroValue25, Yba.underlying21, Yba.runUnderlying21, Yba.sizeOf21, Yba.isAgg21, Yba.zeroValue21, (by kernel_rfl)⟩
end Go.Proofs
