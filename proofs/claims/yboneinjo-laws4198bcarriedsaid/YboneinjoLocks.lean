/-
  The numbers under which this dump holds the library's lock's functions and types, and that it holds them (Derived/Conc/MuLib.lean): typed by hand after Derived/Test/LockinLocks.lean (the tool that prints it is not in this kit); the kernel checks every number.
-/
import Derived.Test.YboneinjoProg
import Derived.Conc.RwLib
import Derived.Conc.MuData
import Derived.KernelRfl
namespace Go.Proofs
abbrev Ybgu.muLink : Go.Conc.Locks.MuLink := { lock := 13, unlock := 15, ilock := 21, iunlock := 22, lockSlow := 27, unlockSlow := 30, disable := 23, enable := 25, acquire := 26, relMerge := 28, cas32 := 24, add32 := 29, tMutex := 42, tIMutex := 40, tPMutex := 82, tPIMutex := 85, tPI32 := 87, tUP := 89, tNoCopy := 34, tU32 := 36 }
theorem Ybgu.muLib : Go.Conc.Locks.MuLib Ybgu.prog Ybgu.muLink :=
  ⟨Ybgu.func13, Ybgu.func15, Ybgu.func21, Ybgu.func22, Ybgu.func23, Ybgu.func25, Ybgu.func26, Ybgu.func28, Ybgu.func24, Ybgu.func29, Ybgu.underlying40, Ybgu.runUnderlying40, Ybgu.sizeOf40, Ybgu.isAgg40, Ybgu.zeroValue40, Ybgu.underlying42, Ybgu.runUnderlying42, Ybgu.sizeOf42, Ybgu.isAgg42, Ybgu.zeroValue42, Ybgu.underlying82, Ybgu.runUnderlying82, Ybgu.sizeOf82, Ybgu.isAgg82, Ybgu.zeroValue82, Ybgu.underlying85, Ybgu.runUnderlying85, Ybgu.sizeOf85, Ybgu.isAgg85, Ybgu.zeroValue85, Ybgu.underlying87, Ybgu.runUnderlying87, Ybgu.sizeOf87, Ybgu.isAgg87, Ybgu.zeroValue87, Ybgu.underlying89, Ybgu.runUnderlying89, Ybgu.sizeOf89, Ybgu.isAgg89, Ybgu.zeroValue89, Ybgu.underlying34, Ybgu.runUnderlying34, Ybgu.sizeOf34, Ybgu.isAgg34, Ybgu.zeroValue34, Ybgu.underlying21, Ybgu.runUnderlying21, Ybgu.sizeOf21, Ybgu.isAgg21, Ybgu.zeroValue21, (by kernel_rfl)⟩
end Go.Proofs
