/- The numbers under which this dump holds sync.Mutex's functions and types, and that it holds them. -/
import Derived.Test.YbulkcygiProg
import Derived.Conc.MuLone
import Derived.KernelRfl
namespace Go.Proofs.Ybulkcygi
abbrev muLink : Go.Conc.Locks.MuLink := { lock := 15, unlock := 16, ilock := 19, iunlock := 20, lockSlow := 27, unlockSlow := 30, disable := 23, enable := 25, acquire := 26, relMerge := 28, cas32 := 24, add32 := 29, tMutex := 82, tIMutex := 80, tPMutex := 106, tPIMutex := 113, tPI32 := 115, tUP := 97, tNoCopy := 77, tU32 := 78 }
theorem muLib : Go.Conc.Locks.MuLib Yba.prog muLink :=
  ⟨Yba.func15, Yba.func16, Yba.func19, Yba.func20, Yba.func23, Yba.func25, Yba.func26, Yba.func28, Yba.func24, Yba.func29, Yba.underlying80, Yba.runUnderlying80, Yba.sizeOf80, Yba.isAgg80, Yba.zeroValue80, Yba.underlying82, Yba.runUnderlying82, Yba.sizeOf82, Yba.isAgg82, Yba.zeroValue82, Yba.underlying106, Yba.runUnderlying106, Yba.sizeOf106, Yba.isAgg106, Yba.zeroValue106, Yba.underlying113, Yba.runUnderlying113, Yba.sizeOf113, Yba.isAgg113, Yba.zeroValue113, Yba.underlying115, Yba.runUnderlying115, Yba.sizeOf115, Yba.isAgg115, Yba.zeroValue115, Yba.underlying97, Yba.runUnderlying97, Yba.sizeOf97, Yba.isAgg97, Yba.zeroValue97, Yba.underlying77, Yba.runUnderlying77, Yba.sizeOf77, Yba.isAgg77, Yba.zeroValue77, Yba.underlying21, Yba.runUnderlying21, Yba.sizeOf21, Yba.isAgg21, Yba.zeroValue21, (by kernel_rfl)⟩
end Go.Proofs.Ybulkcygi
