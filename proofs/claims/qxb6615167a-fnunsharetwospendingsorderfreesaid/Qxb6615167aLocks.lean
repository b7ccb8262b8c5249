import Derived.Test.Qxb6615167aRows
import Derived.Conc.MuLone
import Derived.KernelRfl
namespace Go.Proofs.Qxb6615167a
/-- The numbers under which this dump holds the functions and types of sync.Mutex; each is checked by the kernel below. -/
abbrev muLink : Go.Conc.Locks.MuLink := { lock := 12, unlock := 13, ilock := 15, iunlock := 16, lockSlow := 22, unlockSlow := 25, disable := 18, enable := 20, acquire := 21, relMerge := 23, cas32 := 19, add32 := 24, tMutex := 39, tIMutex := 37, tPMutex := 56, tPIMutex := 59, tPI32 := 61, tUP := 63, tNoCopy := 34, tU32 := 35 }
theorem muLib : Go.Conc.Locks.MuLib Try.prog muLink :=
  ⟨Try.func12, Try.func13, Try.func15, Try.func16, Try.func18, Try.func20, Try.func21, Try.func23, Try.func19, Try.func24, Try.underlying37, Try.runUnderlying37, Try.sizeOf37, Try.isAgg37, Try.zeroValue37, Try.underlying39, Try.runUnderlying39, Try.sizeOf39, Try.isAgg39, Try.zeroValue39, Try.underlying56, Try.runUnderlying56, Try.sizeOf56, Try.isAgg56, Try.zeroValue56, Try.underlying59, Try.runUnderlying59, Try.sizeOf59, Try.isAgg59, Try.zeroValue59, Try.underlying61, Try.runUnderlying61, Try.sizeOf61, Try.isAgg61, Try.zeroValue61, Try.underlying63, Try.runUnderlying63, Try.sizeOf63, Try.isAgg63, Try.zeroValue63, Try.underlying34, Try.runUnderlying34, Try.sizeOf34, Try.isAgg34, Try.zeroValue34, Try.underlying21, Try.runUnderlying21, Try.sizeOf21, Try.isAgg21, Try.zeroValue21, (by kernel_rfl)⟩
end Go.Proofs.Qxb6615167a
