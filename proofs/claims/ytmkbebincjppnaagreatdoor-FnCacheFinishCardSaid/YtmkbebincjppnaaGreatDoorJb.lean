/- Closed facts of the row of laws.FnCacheFinish, one by one. (Printed by wip/facts.py.) -/
import Derived.Test.YtmkbebincjppnaaGreatDoorRows
import Derived.Test.YtmkbebincjppnaaGreatDoorChecked
import Derived.ProofKit
import Derived.JoinedOf
import Derived.KernelRfl
namespace Go.Proofs.YtmkbebincjppnaaGreatDoor
open Go
theorem factFinish10 : ((Rows.fnCacheFinishRow.inPlace == Tryz.pinned.checked.prog.inPlace 3)) = true := by kernel_rfl
theorem factFinish11 : ((Rows.fnCacheFinishRow.unfollowed == Tryz.pinned.checked.prog.unfollowed 3)) = true := by kernel_rfl
theorem factFinish12 : ((Rows.fnCacheFinishRow.recurses == Tryz.pinned.checked.prog.recurses 3)) = true := by kernel_rfl
theorem factFinish13 : ((Rows.fnCacheFinishRow.named == Tryz.pinned.checked.prog.varsNamed 3)) = true := by kernel_rfl
end Go.Proofs.YtmkbebincjppnaaGreatDoor
