/- Closed facts of the row of laws.FnCacheSession, one by one. (Printed by wip/facts.py.) -/
import Derived.Test.YtmkbebincjppnaaGreatDoorRows
import Derived.Test.YtmkbebincjppnaaGreatDoorChecked
import Derived.ProofKit
import Derived.JoinedOf
import Derived.KernelRfl
namespace Go.Proofs.YtmkbebincjppnaaGreatDoor
open Go
theorem factSession10 : ((Rows.fnCacheSessionRow.inPlace == Tryz.pinned.checked.prog.inPlace 7)) = true := by kernel_rfl
theorem factSession11 : ((Rows.fnCacheSessionRow.unfollowed == Tryz.pinned.checked.prog.unfollowed 7)) = true := by kernel_rfl
theorem factSession12 : ((Rows.fnCacheSessionRow.recurses == Tryz.pinned.checked.prog.recurses 7)) = true := by kernel_rfl
theorem factSession13 : ((Rows.fnCacheSessionRow.named == Tryz.pinned.checked.prog.varsNamed 7)) = true := by kernel_rfl
end Go.Proofs.YtmkbebincjppnaaGreatDoor
