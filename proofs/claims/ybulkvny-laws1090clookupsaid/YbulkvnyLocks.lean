import Derived.Test.YbulkvnyProg
import Derived.Conc.MuLib
import Derived.KernelRfl
namespace Go.Proofs.Ybulkvny
open Go.Proofs
abbrev muLink : Go.Conc.Locks.MuLink := { lock := 6, unlock := 7, ilock := 8, iunlock := 9, lockSlow := 14, unlockSlow := 17, disable := 10, enable := 12, acquire := 13, relMerge := 15, cas32 := 11, add32 := 16, tMutex := 32, tIMutex := 30, tPMutex := 49, tPIMutex := 50, tPI32 := 52, tUP := 54, tNoCopy := 27, tU32 := 28 }
theorem muLib : Go.Conc.Locks.MuLib Yba.prog muLink :=
  ⟨Yba.func6, Yba.func7, Yba.func8, Yba.func9, Yba.func10, Yba.func12, Yba.func13, Yba.func15, Yba.func11, Yba.func16, Yba.underlying30, Yba.runUnderlying30, Yba.sizeOf30, Yba.isAgg30, Yba.zeroValue30, Yba.underlying32, Yba.runUnderlying32, Yba.sizeOf32, Yba.isAgg32, Yba.zeroValue32, Yba.underlying49, Yba.runUnderlying49, Yba.sizeOf49, Yba.isAgg49, Yba.zeroValue49, Yba.underlying50, Yba.runUnderlying50, Yba.sizeOf50, Yba.isAgg50, Yba.zeroValue50, Yba.underlying52, Yba.runUnderlying52, Yba.sizeOf52, Yba.isAgg52, Yba.zeroValue52, Yba.underlying54, Yba.runUnderlying54, Yba.sizeOf54, Yba.isAgg54, Yba.zeroValue54, Yba.underlying27, Yba.runUnderlying27, Yba.sizeOf27, Yba.isAgg27, Yba.zeroValue27, Yba.underlying21, Yba.runUnderlying21, Yba.sizeOf21, Yba.isAgg21, Yba.zeroValue21, (by kernel_rfl)⟩
end Go.Proofs.Ybulkvny
