/-
  The numbers under which this program holds the lock of package sync (seat d2 alone). No condition.
-/
import Derived.Test.YtdaeenabeadfmaaProg
import Derived.Conc.RwLib
import Derived.Conc.MuData
import Derived.Conc.MuLone
import Derived.KernelRfl
namespace Go.Proofs.Ytdaeenabeadfmaa
abbrev muLink : Go.Conc.Locks.MuLink := { lock := 16, unlock := 17, ilock := 18, iunlock := 19, lockSlow := 24, unlockSlow := 27, disable := 20, enable := 22, acquire := 23, relMerge := 25, cas32 := 21, add32 := 26, tMutex := 39, tIMutex := 37, tPMutex := 50, tPIMutex := 51, tPI32 := 53, tUP := 55, tNoCopy := 34, tU32 := 35 }
theorem muLib : Go.Conc.Locks.MuLib Try.prog muLink :=
  ⟨Try.func16, Try.func17, Try.func18, Try.func19, Try.func20, Try.func22, Try.func23, Try.func25, Try.func21, Try.func26, Try.underlying37, Try.runUnderlying37, Try.sizeOf37, Try.isAgg37, Try.zeroValue37, Try.underlying39, Try.runUnderlying39, Try.sizeOf39, Try.isAgg39, Try.zeroValue39, Try.underlying50, Try.runUnderlying50, Try.sizeOf50, Try.isAgg50, Try.zeroValue50, Try.underlying51, Try.runUnderlying51, Try.sizeOf51, Try.isAgg51, Try.zeroValue51, Try.underlying53, Try.runUnderlying53, Try.sizeOf53, Try.isAgg53, Try.zeroValue53, Try.underlying55, Try.runUnderlying55, Try.sizeOf55, Try.isAgg55, Try.zeroValue55, Try.underlying34, Try.runUnderlying34, Try.sizeOf34, Try.isAgg34, Try.zeroValue34, Try.underlying21, Try.runUnderlying21, Try.sizeOf21, Try.isAgg21, Try.zeroValue21, (by kernel_rfl)⟩
end Go.Proofs.Ytdaeenabeadfmaa
