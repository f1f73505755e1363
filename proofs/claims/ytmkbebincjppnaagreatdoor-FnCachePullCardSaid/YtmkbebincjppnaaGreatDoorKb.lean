/- Closed facts of the row of laws.FnCachePull, one by one. (Printed by wip/facts.py.) -/
import Derived.Test.YtmkbebincjppnaaGreatDoorRows
import Derived.Test.YtmkbebincjppnaaGreatDoorChecked
import Derived.ProofKit
import Derived.JoinedOf
import Derived.KernelRfl
namespace Go.Proofs.YtmkbebincjppnaaGreatDoor
open Go
theorem factPull10 : ((Rows.fnCachePullRow.inPlace == Tryz.pinned.checked.prog.inPlace 6)) = true := by kernel_rfl
theorem factPull11 : ((Rows.fnCachePullRow.unfollowed == Tryz.pinned.checked.prog.unfollowed 6)) = true := by kernel_rfl
theorem factPull12 : ((Rows.fnCachePullRow.recurses == Tryz.pinned.checked.prog.recurses 6)) = true := by kernel_rfl
theorem factPull13 : ((Rows.fnCachePullRow.named == Tryz.pinned.checked.prog.varsNamed 6)) = true := by kernel_rfl
end Go.Proofs.YtmkbebincjppnaaGreatDoor
