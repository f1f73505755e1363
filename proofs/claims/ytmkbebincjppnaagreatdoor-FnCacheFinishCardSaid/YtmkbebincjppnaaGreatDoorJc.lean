/- Closed facts of the row of laws.FnCacheFinish, one by one. (Printed by wip/facts.py.) -/
import Derived.Test.YtmkbebincjppnaaGreatDoorRows
import Derived.Test.YtmkbebincjppnaaGreatDoorChecked
import Derived.ProofKit
import Derived.JoinedOf
import Derived.KernelRfl
namespace Go.Proofs.YtmkbebincjppnaaGreatDoor
open Go
theorem factFinish14 : ((Rows.fnCacheFinishRow.maps == (Tryz.f3.params.toList ++ Rows.fnCacheFinishSpec.plain.varTypes Tryz.pinned.checked.prog).any (Tryz.pinned.checked.prog.mapsRec ·))) = true := by kernel_rfl
theorem factFinish15 : ((Rows.fnCacheFinishRow.ifaces == (Tryz.f3.params.toList ++ Rows.fnCacheFinishSpec.plain.varTypes Tryz.pinned.checked.prog).any (Tryz.pinned.checked.prog.ifacesRec ·))) = true := by kernel_rfl
theorem factFinish16 : ((Rows.fnCacheFinishRow.mapsOut == Tryz.pinned.checked.prog.mapsAmong Tryz.f3.resultTypes.toList)) = true := by kernel_rfl
theorem factFinish17 : ((Rows.fnCacheFinishRow.loops == (Tryz.f3.params.toList ++ Rows.fnCacheFinishSpec.plain.varTypes Tryz.pinned.checked.prog).any (Tryz.pinned.checked.prog.loopsFrom ·))) = true := by kernel_rfl
theorem factFinish18 : ((Rows.fnCacheFinishRow.wideKeys == (Tryz.f3.params.toList ++ Rows.fnCacheFinishSpec.plain.varTypes Tryz.pinned.checked.prog ++ Tryz.f3.resultTypes.toList).any (Tryz.pinned.checked.prog.wideKeysFrom ·))) = true := by kernel_rfl
theorem factFinish19 : (Rows.fnCacheFinishSpec.vars.all (Tryz.pinned.checked.prog.varReadable ·)) = true := by kernel_rfl
theorem factFinish20 : (Tryz.f3.resultTypes.all (fun t => Tryz.pinned.checked.prog.readableRec t && decide (t < Tryz.pinned.checked.prog.types.size))) = true := by kernel_rfl
theorem factFinish21 : ((Rows.fnCacheFinishRow.ifacesOut == Tryz.f3.resultTypes.toList.any (Tryz.pinned.checked.prog.ifacesRec ·))) = true := by kernel_rfl
theorem factFinish22 : ((Rows.fnCacheFinishRow.loopsOut == Tryz.f3.resultTypes.toList.any (Tryz.pinned.checked.prog.loopsFrom ·))) = true := by kernel_rfl
theorem factFinish23 : ((Rows.fnCacheFinishRow.plainKeys == Tryz.pinned.checked.prog.plainKeys)) = true := by kernel_rfl
theorem factFinish24 : (Rows.fnCacheFinishRow.shortTexts.isNone) = true := by kernel_rfl
theorem factFinish25 : (Tryz.pinned.checked.prog.stopsHeard) = true := by kernel_rfl
theorem factFinish26 : (Tryz.pinned.checked.prog.mayEnter) = true := by kernel_rfl
theorem factFinish27 : ((Rows.fnCacheFinishRow.lifted == Tryz.pinned.checked.prog.liftsFinal)) = true := by kernel_rfl
theorem factFinish28 : ((Tryz.pinned.checked.prog.make == some Rows.fnCacheFinishRow.make)) = true := by kernel_rfl
theorem factFinish29 : ((Rows.fnCacheFinishRow.kinds == (if Rows.fnCacheFinishRow.domain.isEmpty then [] else Tryz.f3.params.toList.map fun t => match Tryz.pinned.checked.prog.underlying t with | some (.int k) => some k | _ => none))) = true := by kernel_rfl
theorem factFinish30 : ((Rows.fnCacheFinishRow.pinned == Rows.fnCacheFinishRow.pinnedBy)) = true := by kernel_rfl
theorem factFinish31 : ((Rows.fnCacheFinishRow.veiled == (Tryz.f3.params.toList ++ Rows.fnCacheFinishSpec.plain.varTypes Tryz.pinned.checked.prog ++ Tryz.f3.resultTypes.toList).any (Tryz.pinned.checked.prog.veiledRec ·))) = true := by kernel_rfl
theorem factFinish32 : (Rows.fnCacheFinishRow.veiledFits Tryz.pinned.checked.prog Tryz.f3.params.toList (Tryz.f3.params.toList ++ Rows.fnCacheFinishSpec.plain.varTypes Tryz.pinned.checked.prog ++ Tryz.f3.resultTypes.toList)) = true := by kernel_rfl
end Go.Proofs.YtmkbebincjppnaaGreatDoor
