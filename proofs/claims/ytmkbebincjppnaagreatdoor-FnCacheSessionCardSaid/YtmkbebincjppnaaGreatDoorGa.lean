/- Closed facts of the row of laws.FnCacheSession, one by one. (Printed by wip/facts.py.) -/
import Derived.Test.YtmkbebincjppnaaGreatDoorRows
import Derived.Test.YtmkbebincjppnaaGreatDoorChecked
import Derived.ProofKit
import Derived.JoinedOf
import Derived.KernelRfl
namespace Go.Proofs.YtmkbebincjppnaaGreatDoor
open Go
theorem factSession1 : (Rows.fnCacheSessionRow.wf (OpenSpec.ofChange Rows.fnCacheSessionSpec)) = true := by kernel_rfl
theorem factSession2 : (laidOutB Tryz.pinned.checked.prog) = true := by kernel_rfl
theorem factSession3 : (mapsRowed Tryz.pinned.checked.prog) = true := by kernel_rfl
theorem factSession4 : (Tryz.f7.params.all (Tryz.pinned.checked.prog.readableRec ·)) = true := by kernel_rfl
theorem factSession5 : (namedTie Tryz.pinned.checked.prog Rows.fnCacheSessionRow.named Rows.fnCacheSessionSpec.vars) = true := by kernel_rfl
theorem factSession6 : ((Rows.fnCacheSessionRow.stops == [])) = true := by kernel_rfl
theorem factSession7 : ((Tryz.pinned.checked.prog.stops == [])) = true := by kernel_rfl
theorem factSession8 : ((Rows.fnCacheSessionRow.knobs == [])) = true := by kernel_rfl
theorem factSession9 : ((Tryz.pinned.checked.prog.stopKnobs == [])) = true := by kernel_rfl
end Go.Proofs.YtmkbebincjppnaaGreatDoor
