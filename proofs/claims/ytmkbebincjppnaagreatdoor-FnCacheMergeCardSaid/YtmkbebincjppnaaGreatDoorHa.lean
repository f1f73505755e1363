/- Closed facts of the row of laws.FnCacheMerge, one by one. (Printed by wip/facts.py.) -/
import Derived.Test.YtmkbebincjppnaaGreatDoorRows
import Derived.Test.YtmkbebincjppnaaGreatDoorChecked
import Derived.ProofKit
import Derived.JoinedOf
import Derived.KernelRfl
namespace Go.Proofs.YtmkbebincjppnaaGreatDoor
open Go
theorem factMerge1 : (Rows.fnCacheMergeRow.wf (OpenSpec.ofChange Rows.fnCacheMergeSpec)) = true := by kernel_rfl
theorem factMerge2 : (laidOutB Tryz.pinned.checked.prog) = true := by kernel_rfl
theorem factMerge3 : (mapsRowed Tryz.pinned.checked.prog) = true := by kernel_rfl
theorem factMerge4 : (Tryz.f5.params.all (Tryz.pinned.checked.prog.readableRec ·)) = true := by kernel_rfl
theorem factMerge5 : (namedTie Tryz.pinned.checked.prog Rows.fnCacheMergeRow.named Rows.fnCacheMergeSpec.vars) = true := by kernel_rfl
theorem factMerge6 : ((Rows.fnCacheMergeRow.stops == [])) = true := by kernel_rfl
theorem factMerge7 : ((Tryz.pinned.checked.prog.stops == [])) = true := by kernel_rfl
theorem factMerge8 : ((Rows.fnCacheMergeRow.knobs == [])) = true := by kernel_rfl
theorem factMerge9 : ((Tryz.pinned.checked.prog.stopKnobs == [])) = true := by kernel_rfl
end Go.Proofs.YtmkbebincjppnaaGreatDoor
