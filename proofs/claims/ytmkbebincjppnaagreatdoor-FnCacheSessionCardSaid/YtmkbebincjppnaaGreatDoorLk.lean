/- The numbers under which this translation holds sync.Mutex's text, and that it holds it. -/
import Derived.Test.YtmkbebincjppnaaGreatDoorProg
import Derived.Conc.MuLone
import Derived.KernelRfl
namespace Go.Proofs.YtmkbebincjppnaaGreatDoor
abbrev muLink : Go.Conc.Locks.MuLink := { lock := 113, unlock := 114, ilock := 137, iunlock := 138, lockSlow := 167, unlockSlow := 170, disable := 163, enable := 165, acquire := 166, relMerge := 168, cas32 := 164, add32 := 169, tMutex := 239, tIMutex := 237, tPMutex := 305, tPIMutex := 347, tPI32 := 349, tUP := 351, tNoCopy := 235, tU32 := 46 }
theorem muLib : Go.Conc.Locks.MuLib Tryz.prog muLink :=
  ⟨Tryz.func113, Tryz.func114, Tryz.func137, Tryz.func138, Tryz.func163, Tryz.func165, Tryz.func166, Tryz.func168, Tryz.func164, Tryz.func169,
   Tryz.underlying237, Tryz.runUnderlying237, Tryz.sizeOf237, Tryz.isAgg237, Tryz.zeroValue237, Tryz.underlying239, Tryz.runUnderlying239, Tryz.sizeOf239, Tryz.isAgg239, Tryz.zeroValue239,
   Tryz.underlying305, Tryz.runUnderlying305, Tryz.sizeOf305, Tryz.isAgg305, Tryz.zeroValue305, Tryz.underlying347, Tryz.runUnderlying347, Tryz.sizeOf347, Tryz.isAgg347, Tryz.zeroValue347,
   Tryz.underlying349, Tryz.runUnderlying349, Tryz.sizeOf349, Tryz.isAgg349, Tryz.zeroValue349, Tryz.underlying351, Tryz.runUnderlying351, Tryz.sizeOf351, Tryz.isAgg351, Tryz.zeroValue351,
   Tryz.underlying235, Tryz.runUnderlying235, Tryz.sizeOf235, Tryz.isAgg235, Tryz.zeroValue235, Tryz.underlying21, Tryz.runUnderlying21, Tryz.sizeOf21, Tryz.isAgg21, Tryz.zeroValue21, (by kernel_rfl)⟩
end Go.Proofs.YtmkbebincjppnaaGreatDoor
