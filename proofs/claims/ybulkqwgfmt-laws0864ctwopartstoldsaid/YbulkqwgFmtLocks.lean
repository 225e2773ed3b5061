import Derived.Test.YbulkqwgFmtProg
import Derived.Conc.MuLib
import Derived.Conc.MuData
import Derived.KernelRfl
/-! The numbers under which this dump holds sync.Mutex, and that it holds it. -/
namespace Go.Proofs.YbulkqwgFmt
abbrev Ybaf.muLink : Go.Conc.Locks.MuLink := { lock := 10, unlock := 12, ilock := 19, iunlock := 23, lockSlow := 33, unlockSlow := 36, disable := 29, enable := 31, acquire := 32, relMerge := 34, cas32 := 30, add32 := 35, tMutex := 31, tIMutex := 29, tPMutex := 96, tPIMutex := 121, tPI32 := 123, tUP := 125, tNoCopy := 26, tU32 := 27 }
theorem Ybaf.muLib : Go.Conc.Locks.MuLib Ybaf.prog Ybaf.muLink :=
  ⟨Ybaf.func10, Ybaf.func12, Ybaf.func19, Ybaf.func23, Ybaf.func29, Ybaf.func31, Ybaf.func32, Ybaf.func34, Ybaf.func30, Ybaf.func35, Ybaf.underlying29, Ybaf.runUnderlying29, Ybaf.sizeOf29, Ybaf.isAgg29, Ybaf.zeroValue29, Ybaf.underlying31, Ybaf.runUnderlying31, Ybaf.sizeOf31, Ybaf.isAgg31, Ybaf.zeroValue31, Ybaf.underlying96, Ybaf.runUnderlying96, Ybaf.sizeOf96, Ybaf.isAgg96, Ybaf.zeroValue96, Ybaf.underlying121, Ybaf.runUnderlying121, Ybaf.sizeOf121, Ybaf.isAgg121, Ybaf.zeroValue121, Ybaf.underlying123, Ybaf.runUnderlying123, Ybaf.sizeOf123, Ybaf.isAgg123, Ybaf.zeroValue123, Ybaf.underlying125, Ybaf.runUnderlying125, Ybaf.sizeOf125, Ybaf.isAgg125, Ybaf.zeroValue125, Ybaf.underlying26, Ybaf.runUnderlying26, Ybaf.sizeOf26, Ybaf.isAgg26, Ybaf.zeroValue26, Ybaf.underlying21, Ybaf.runUnderlying21, Ybaf.sizeOf21, Ybaf.isAgg21, Ybaf.zeroValue21, (by kernel_rfl)⟩
end Go.Proofs.YbulkqwgFmt
