/- Walks and lemmas for the laws of this seat. -/
import Derived.Test.YtocahcammjoffaaGreatDoorBs
import Derived.Conc.MuLone
import Derived.KernelRfl
namespace Go.Proofs.YtocahcammjoffaaGreatDoor
open Go.RowKit Go.MuLone
set_option maxRecDepth 100000
abbrev muLink : Go.Conc.Locks.MuLink := { lock := 232, unlock := 233, ilock := 273, iunlock := 274, lockSlow := 312, unlockSlow := 315, disable := 308, enable := 310, acquire := 311, relMerge := 313, cas32 := 309, add32 := 314, tMutex := 185, tIMutex := 183, tPMutex := 284, tPIMutex := 311, tPI32 := 313, tUP := 315, tNoCopy := 181, tU32 := 40 }
theorem muLib : Go.Conc.Locks.MuLib Tryz.prog muLink :=
  ⟨Tryz.func232, Tryz.func233, Tryz.func273, Tryz.func274, Tryz.func308, Tryz.func310, Tryz.func311, Tryz.func313, Tryz.func309, Tryz.func314, Tryz.underlying183, Tryz.runUnderlying183, Tryz.sizeOf183, Tryz.isAgg183, Tryz.zeroValue183, Tryz.underlying185, Tryz.runUnderlying185, Tryz.sizeOf185, Tryz.isAgg185, Tryz.zeroValue185, Tryz.underlying284, Tryz.runUnderlying284, Tryz.sizeOf284, Tryz.isAgg284, Tryz.zeroValue284, Tryz.underlying311, Tryz.runUnderlying311, Tryz.sizeOf311, Tryz.isAgg311, Tryz.zeroValue311, Tryz.underlying313, Tryz.runUnderlying313, Tryz.sizeOf313, Tryz.isAgg313, Tryz.zeroValue313, Tryz.underlying315, Tryz.runUnderlying315, Tryz.sizeOf315, Tryz.isAgg315, Tryz.zeroValue315, Tryz.underlying181, Tryz.runUnderlying181, Tryz.sizeOf181, Tryz.isAgg181, Tryz.zeroValue181, Tryz.underlying21, Tryz.runUnderlying21, Tryz.sizeOf21, Tryz.isAgg21, Tryz.zeroValue21, (by kernel_rfl)⟩
end Go.Proofs.YtocahcammjoffaaGreatDoor
