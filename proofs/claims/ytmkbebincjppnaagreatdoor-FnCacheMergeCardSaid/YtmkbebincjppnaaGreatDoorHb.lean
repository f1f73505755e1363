/- Closed facts of the row of laws.FnCacheMerge, one by one. (Printed by wip/facts.py.) -/
import Derived.Test.YtmkbebincjppnaaGreatDoorRows
import Derived.Test.YtmkbebincjppnaaGreatDoorChecked
import Derived.ProofKit
import Derived.JoinedOf
import Derived.KernelRfl
namespace Go.Proofs.YtmkbebincjppnaaGreatDoor
open Go
theorem factMerge10 : ((Rows.fnCacheMergeRow.inPlace == Tryz.pinned.checked.prog.inPlace 5)) = true := by kernel_rfl
theorem factMerge11 : ((Rows.fnCacheMergeRow.unfollowed == Tryz.pinned.checked.prog.unfollowed 5)) = true := by kernel_rfl
theorem factMerge12 : ((Rows.fnCacheMergeRow.recurses == Tryz.pinned.checked.prog.recurses 5)) = true := by kernel_rfl
theorem factMerge13 : ((Rows.fnCacheMergeRow.named == Tryz.pinned.checked.prog.varsNamed 5)) = true := by kernel_rfl
end Go.Proofs.YtmkbebincjppnaaGreatDoor
