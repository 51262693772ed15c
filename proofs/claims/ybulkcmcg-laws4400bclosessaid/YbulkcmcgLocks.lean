/-
  SEAT b4400a: the numbers under which this program holds sync.Mutex's functions and types, and that it holds them.
-/
import Derived.Test.YbulkcmcgProg
import Derived.Conc.MuLone
import Derived.KernelRfl
namespace Go.Proofs
abbrev Yba.muLink : Go.Conc.Locks.MuLink := { lock := 10, unlock := 11, ilock := 14, iunlock := 15, lockSlow := 24, unlockSlow := 27, disable := 20, enable := 22, acquire := 23, relMerge := 25, cas32 := 21, add32 := 26, tMutex := 55, tIMutex := 53, tPMutex := 91, tPIMutex := 98, tPI32 := 100, tUP := 47, tNoCopy := 50, tU32 := 51 }
theorem Yba.muLib : Go.Conc.Locks.MuLib Yba.prog Yba.muLink :=
  ⟨Yba.func10, Yba.func11, Yba.func14, Yba.func15, Yba.func20, Yba.func22, Yba.func23, Yba.func25, Yba.func21, Yba.func26, Yba.underlying53, Yba.runUnderlying53, Yba.sizeOf53, Yba.isAgg53, Yba.zeroValue53, Yba.underlying55, Yba.runUnderlying55, Yba.sizeOf55, Yba.isAgg55, Yba.zeroValue55, Yba.underlying91, Yba.runUnderlying91, Yba.sizeOf91, Yba.isAgg91, Yba.zeroValue91, Yba.underlying98, Yba.runUnderlying98, Yba.sizeOf98, Yba.isAgg98, Yba.zeroValue98, Yba.underlying100, Yba.runUnderlying100, Yba.sizeOf100, Yba.isAgg100, Yba.zeroValue100, Yba.underlying47, Yba.runUnderlying47, Yba.sizeOf47, Yba.isAgg47, Yba.zeroValue47, Yba.underlying50, Yba.runUnderlying50, Yba.sizeOf50, Yba.isAgg50, Yba.zeroValue50, Yba.underlying21, Yba.runUnderlying21, Yba.sizeOf21, Yba.isAgg21, Yba.zeroValue21, (by kernel_rfl)⟩
end Go.Proofs
