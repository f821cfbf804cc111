/- The numbers under which this dump holds the library's locks' functions and types (after the worked RegLocks). -/
import Derived.Test.Qxb6618660aRows
import Derived.Conc.MuLone
import Derived.Conc.MuData
import Derived.KernelRfl
namespace Go.Proofs.Qxb6618660a
abbrev muLink : Go.Conc.Locks.MuLink := { lock := 29, unlock := 30, ilock := 34, iunlock := 35, lockSlow := 45, unlockSlow := 48, disable := 41, enable := 43, acquire := 44, relMerge := 46, cas32 := 42, add32 := 47, tMutex := 54, tIMutex := 52, tPMutex := 65, tPIMutex := 69, tPI32 := 71, tUP := 73, tNoCopy := 49, tU32 := 50 }
theorem muLib : Go.Conc.Locks.MuLib Try.prog muLink :=
  ⟨Try.func29, Try.func30, Try.func34, Try.func35, Try.func41, Try.func43, Try.func44, Try.func46, Try.func42, Try.func47, Try.underlying52, Try.runUnderlying52, Try.sizeOf52, Try.isAgg52, Try.zeroValue52, Try.underlying54, Try.runUnderlying54, Try.sizeOf54, Try.isAgg54, Try.zeroValue54, Try.underlying65, Try.runUnderlying65, Try.sizeOf65, Try.isAgg65, Try.zeroValue65, Try.underlying69, Try.runUnderlying69, Try.sizeOf69, Try.isAgg69, Try.zeroValue69, Try.underlying71, Try.runUnderlying71, Try.sizeOf71, Try.isAgg71, Try.zeroValue71, Try.underlying73, Try.runUnderlying73, Try.sizeOf73, Try.isAgg73, Try.zeroValue73, Try.underlying49, Try.runUnderlying49, Try.sizeOf49, Try.isAgg49, Try.zeroValue49, Try.underlying21, Try.runUnderlying21, Try.sizeOf21, Try.isAgg21, Try.zeroValue21, (by kernel_rfl)⟩
theorem muData : Go.Conc.Locks.MuData Try.prog muLink := ⟨Try.underlying50, by kernel_rfl, by kernel_rfl, by kernel_rfl, by kernel_rfl, by kernel_rfl⟩
end Go.Proofs.Qxb6618660a
