/- The package variables that the rows list are tied to the program's text. -/
import Derived.Test.YtmkbebincjppnaaGreatDoorTd
import Derived.Test.YtmkbebincjppnaaGreatDoorTe
namespace Go.Proofs.YtmkbebincjppnaaGreatDoor
open Go
theorem tie' : Tryz.prog.laidByTextLater Rows.fnCacheFinishRow.laid [.sentinel, .sentinel, .sentinel, .sentinel, .sentinel, .data, .data, .sentinel, .sentinel] true :=
  Program.laidByTextLater_by_run 1000 8 (by kernel_rfl) (by kernel_rfl) (by kernel_rfl) (by kernel_rfl) (by kernel_rfl) (by kernel_rfl) varsDone' laidRun1 laidRun2
theorem fnCacheFinish_tied : Rows.fnCacheFinishRow.laidByTextAt .later Tryz.pinned [.sentinel, .sentinel, .sentinel, .sentinel, .sentinel, .data, .data, .sentinel, .sentinel] true :=
  OpenClaim.laidByTextAt_later rfl rfl tie' noOwnUnsafe'
#print axioms fnCacheFinish_tied
end Go.Proofs.YtmkbebincjppnaaGreatDoor
