import Derived.Test.YbulkhbaBase
import Derived.Conc.MuLone
import Derived.Conc.MuLib
namespace Go.Proofs
abbrev Yba.muLink : Go.Conc.Locks.MuLink := { lock := 29, unlock := 30, ilock := 45, iunlock := 46, lockSlow := 65, unlockSlow := 68, disable := 61, enable := 63, acquire := 64, relMerge := 66, cas32 := 62, add32 := 67, tMutex := 61, tIMutex := 59, tPMutex := 149, tPIMutex := 165, tPI32 := 167, tUP := 169, tNoCopy := 56, tU32 := 57 }
theorem Yba.muLib : Go.Conc.Locks.MuLib Yba.prog Yba.muLink :=
  ⟨Yba.func29, Yba.func30, Yba.func45, Yba.func46, Yba.func61, Yba.func63, Yba.func64, Yba.func66, Yba.func62, Yba.func67, Yba.underlying59, Yba.runUnderlying59, Yba.sizeOf59, Yba.isAgg59, Yba.zeroValue59, Yba.underlying61, Yba.runUnderlying61, Yba.sizeOf61, Yba.isAgg61, Yba.zeroValue61, Yba.underlying149, Yba.runUnderlying149, Yba.sizeOf149, Yba.isAgg149, Yba.zeroValue149, Yba.underlying165, Yba.runUnderlying165, Yba.sizeOf165, Yba.isAgg165, Yba.zeroValue165, Yba.underlying167, Yba.runUnderlying167, Yba.sizeOf167, Yba.isAgg167, Yba.zeroValue167, Yba.underlying169, Yba.runUnderlying169, Yba.sizeOf169, Yba.isAgg169, Yba.zeroValue169, Yba.underlying56, Yba.runUnderlying56, Yba.sizeOf56, Yba.isAgg56, Yba.zeroValue56, Yba.underlying21, Yba.runUnderlying21, Yba.sizeOf21, Yba.isAgg21, Yba.zeroValue21, by kernel_rfl⟩
end Go.Proofs
