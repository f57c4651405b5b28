/-
  The numbers under which this dump holds sync.Mutex's functions and types, and that it holds them (Derived/Conc/MuLib.lean). Typed by hand after the make of a worked text; the kernel checks every number.
-/
import Derived.Test.YbulkddigProg
import Derived.Conc.MuLib
import Derived.KernelRfl
namespace Go.Proofs
abbrev Yba.muLink : Go.Conc.Locks.MuLink := { lock := 19, unlock := 20, ilock := 29, iunlock := 30, lockSlow := 44, unlockSlow := 47, disable := 40, enable := 42, acquire := 43, relMerge := 45, cas32 := 41, add32 := 46, tMutex := 67, tIMutex := 65, tPMutex := 139, tPIMutex := 147, tPI32 := 149, tUP := 151, tNoCopy := 62, tU32 := 63 }
theorem Yba.muLib : Go.Conc.Locks.MuLib Yba.prog Yba.muLink :=
  ⟨Yba.func19, Yba.func20, Yba.func29, Yba.func30, Yba.func40, Yba.func42, Yba.func43, Yba.func45, Yba.func41, Yba.func46, Yba.underlying65, Yba.runUnderlying65, Yba.sizeOf65, Yba.isAgg65, Yba.zeroValue65, Yba.underlying67, Yba.runUnderlying67, Yba.sizeOf67, Yba.isAgg67, Yba.zeroValue67, Yba.underlying139, Yba.runUnderlying139, Yba.sizeOf139, Yba.isAgg139, Yba.zeroValue139, Yba.underlying147, Yba.runUnderlying147, Yba.sizeOf147, Yba.isAgg147, Yba.zeroValue147, Yba.underlying149, Yba.runUnderlying149, Yba.sizeOf149, Yba.isAgg149, Yba.zeroValue149, Yba.underlying151, Yba.runUnderlying151, Yba.sizeOf151, Yba.isAgg151, Yba.zeroValue151, Yba.underlying62, Yba.runUnderlying62, Yba.sizeOf62, Yba.isAgg62, Yba.zeroValue62, Yba.underlying21, Yba.runUnderlying21, Yba.sizeOf21, Yba.isAgg21, Yba.zeroValue21, (by kernel_rfl)⟩
end Go.Proofs
