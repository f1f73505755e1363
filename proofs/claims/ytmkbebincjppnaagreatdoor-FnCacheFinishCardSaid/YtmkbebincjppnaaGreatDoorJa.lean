/- Closed facts of the row of laws.FnCacheFinish, one by one. (Printed by wip/facts.py.) -/
import Derived.Test.YtmkbebincjppnaaGreatDoorRows
import Derived.Test.YtmkbebincjppnaaGreatDoorChecked
import Derived.ProofKit
import Derived.JoinedOf
import Derived.KernelRfl
namespace Go.Proofs.YtmkbebincjppnaaGreatDoor
open Go
theorem factFinish1 : (Rows.fnCacheFinishRow.wf (OpenSpec.ofChange Rows.fnCacheFinishSpec)) = true := by kernel_rfl
theorem factFinish2 : (laidOutB Tryz.pinned.checked.prog) = true := by kernel_rfl
theorem factFinish3 : (mapsRowed Tryz.pinned.checked.prog) = true := by kernel_rfl
theorem factFinish4 : (Tryz.f3.params.all (Tryz.pinned.checked.prog.readableRec ·)) = true := by kernel_rfl
theorem factFinish5 : (namedTie Tryz.pinned.checked.prog Rows.fnCacheFinishRow.named Rows.fnCacheFinishSpec.vars) = true := by kernel_rfl
theorem factFinish6 : ((Rows.fnCacheFinishRow.stops == [])) = true := by kernel_rfl
theorem factFinish7 : ((Tryz.pinned.checked.prog.stops == [])) = true := by kernel_rfl
theorem factFinish8 : ((Rows.fnCacheFinishRow.knobs == [])) = true := by kernel_rfl
theorem factFinish9 : ((Tryz.pinned.checked.prog.stopKnobs == [])) = true := by kernel_rfl
end Go.Proofs.YtmkbebincjppnaaGreatDoor
