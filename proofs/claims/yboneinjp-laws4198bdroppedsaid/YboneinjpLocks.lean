/-
  The numbers under which this dump holds the library's lock's functions and types, and that it holds them (Derived/Conc/MuLib.lean): typed by hand after Derived/Test/LockinLocks.lean (the tool that prints it is not in this kit); the kernel checks every number.
-/
import Derived.Test.YboneinjpProg
import Derived.Conc.RwLib
import Derived.Conc.MuData
import Derived.KernelRfl
namespace Go.Proofs
abbrev Ybgv.muLink : Go.Conc.Locks.MuLink := { lock := 13, unlock := 15, ilock := 21, iunlock := 22, lockSlow := 27, unlockSlow := 30, disable := 23, enable := 25, acquire := 26, relMerge := 28, cas32 := 24, add32 := 29, tMutex := 33, tIMutex := 31, tPMutex := 62, tPIMutex := 65, tPI32 := 67, tUP := 69, tNoCopy := 28, tU32 := 29 }
theorem Ybgv.muLib : Go.Conc.Locks.MuLib Ybgv.prog Ybgv.muLink :=
  ⟨Ybgv.func13, Ybgv.func15, Ybgv.func21, Ybgv.func22, Ybgv.func23, Ybgv.func25, Ybgv.func26, Ybgv.func28, Ybgv.func24, Ybgv.func29, Ybgv.underlying31, Ybgv.runUnderlying31, Ybgv.sizeOf31, Ybgv.isAgg31, Ybgv.zeroValue31, Ybgv.underlying33, Ybgv.runUnderlying33, Ybgv.sizeOf33, Ybgv.isAgg33, Ybgv.zeroValue33, Ybgv.underlying62, Ybgv.runUnderlying62, Ybgv.sizeOf62, Ybgv.isAgg62, Ybgv.zeroValue62, Ybgv.underlying65, Ybgv.runUnderlying65, Ybgv.sizeOf65, Ybgv.isAgg65, Ybgv.zeroValue65, Ybgv.underlying67, Ybgv.runUnderlying67, Ybgv.sizeOf67, Ybgv.isAgg67, Ybgv.zeroValue67, Ybgv.underlying69, Ybgv.runUnderlying69, Ybgv.sizeOf69, Ybgv.isAgg69, Ybgv.zeroValue69, Ybgv.underlying28, Ybgv.runUnderlying28, Ybgv.sizeOf28, Ybgv.isAgg28, Ybgv.zeroValue28, Ybgv.underlying21, Ybgv.runUnderlying21, Ybgv.sizeOf21, Ybgv.isAgg21, Ybgv.zeroValue21, (by kernel_rfl)⟩
end Go.Proofs
