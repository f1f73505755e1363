/- Closed facts of the row of laws.FnCachePull, one by one. (Printed by wip/facts.py.) -/
import Derived.Test.YtmkbebincjppnaaGreatDoorRows
import Derived.Test.YtmkbebincjppnaaGreatDoorChecked
import Derived.ProofKit
import Derived.JoinedOf
import Derived.KernelRfl
namespace Go.Proofs.YtmkbebincjppnaaGreatDoor
open Go
theorem factPull1 : (Rows.fnCachePullRow.wf (OpenSpec.ofChange Rows.fnCachePullSpec)) = true := by kernel_rfl
theorem factPull2 : (laidOutB Tryz.pinned.checked.prog) = true := by kernel_rfl
theorem factPull3 : (mapsRowed Tryz.pinned.checked.prog) = true := by kernel_rfl
theorem factPull4 : (Tryz.f6.params.all (Tryz.pinned.checked.prog.readableRec ·)) = true := by kernel_rfl
theorem factPull5 : (namedTie Tryz.pinned.checked.prog Rows.fnCachePullRow.named Rows.fnCachePullSpec.vars) = true := by kernel_rfl
theorem factPull6 : ((Rows.fnCachePullRow.stops == [])) = true := by kernel_rfl
theorem factPull7 : ((Tryz.pinned.checked.prog.stops == [])) = true := by kernel_rfl
theorem factPull8 : ((Rows.fnCachePullRow.knobs == [])) = true := by kernel_rfl
theorem factPull9 : ((Tryz.pinned.checked.prog.stopKnobs == [])) = true := by kernel_rfl
end Go.Proofs.YtmkbebincjppnaaGreatDoor
