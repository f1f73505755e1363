/- Closed facts of the row of laws.FnCacheMerge, one by one. (Printed by wip/facts.py.) -/
import Derived.Test.YtmkbebincjppnaaGreatDoorRows
import Derived.Test.YtmkbebincjppnaaGreatDoorChecked
import Derived.ProofKit
import Derived.JoinedOf
import Derived.KernelRfl
namespace Go.Proofs.YtmkbebincjppnaaGreatDoor
open Go
theorem factMerge14 : ((Rows.fnCacheMergeRow.maps == (Tryz.f5.params.toList ++ Rows.fnCacheMergeSpec.plain.varTypes Tryz.pinned.checked.prog).any (Tryz.pinned.checked.prog.mapsRec ·))) = true := by kernel_rfl
theorem factMerge15 : ((Rows.fnCacheMergeRow.ifaces == (Tryz.f5.params.toList ++ Rows.fnCacheMergeSpec.plain.varTypes Tryz.pinned.checked.prog).any (Tryz.pinned.checked.prog.ifacesRec ·))) = true := by kernel_rfl
theorem factMerge16 : ((Rows.fnCacheMergeRow.mapsOut == Tryz.pinned.checked.prog.mapsAmong Tryz.f5.resultTypes.toList)) = true := by kernel_rfl
theorem factMerge17 : ((Rows.fnCacheMergeRow.loops == (Tryz.f5.params.toList ++ Rows.fnCacheMergeSpec.plain.varTypes Tryz.pinned.checked.prog).any (Tryz.pinned.checked.prog.loopsFrom ·))) = true := by kernel_rfl
theorem factMerge18 : ((Rows.fnCacheMergeRow.wideKeys == (Tryz.f5.params.toList ++ Rows.fnCacheMergeSpec.plain.varTypes Tryz.pinned.checked.prog ++ Tryz.f5.resultTypes.toList).any (Tryz.pinned.checked.prog.wideKeysFrom ·))) = true := by kernel_rfl
theorem factMerge19 : (Rows.fnCacheMergeSpec.vars.all (Tryz.pinned.checked.prog.varReadable ·)) = true := by kernel_rfl
theorem factMerge20 : (Tryz.f5.resultTypes.all (fun t => Tryz.pinned.checked.prog.readableRec t && decide (t < Tryz.pinned.checked.prog.types.size))) = true := by kernel_rfl
theorem factMerge21 : ((Rows.fnCacheMergeRow.ifacesOut == Tryz.f5.resultTypes.toList.any (Tryz.pinned.checked.prog.ifacesRec ·))) = true := by kernel_rfl
theorem factMerge22 : ((Rows.fnCacheMergeRow.loopsOut == Tryz.f5.resultTypes.toList.any (Tryz.pinned.checked.prog.loopsFrom ·))) = true := by kernel_rfl
theorem factMerge23 : ((Rows.fnCacheMergeRow.plainKeys == Tryz.pinned.checked.prog.plainKeys)) = true := by kernel_rfl
theorem factMerge24 : (Rows.fnCacheMergeRow.shortTexts.isNone) = true := by kernel_rfl
theorem factMerge25 : (Tryz.pinned.checked.prog.stopsHeard) = true := by kernel_rfl
theorem factMerge26 : (Tryz.pinned.checked.prog.mayEnter) = true := by kernel_rfl
theorem factMerge27 : ((Rows.fnCacheMergeRow.lifted == Tryz.pinned.checked.prog.liftsFinal)) = true := by kernel_rfl
theorem factMerge28 : ((Tryz.pinned.checked.prog.make == some Rows.fnCacheMergeRow.make)) = true := by kernel_rfl
theorem factMerge29 : ((Rows.fnCacheMergeRow.kinds == (if Rows.fnCacheMergeRow.domain.isEmpty then [] else Tryz.f5.params.toList.map fun t => match Tryz.pinned.checked.prog.underlying t with | some (.int k) => some k | _ => none))) = true := by kernel_rfl
theorem factMerge30 : ((Rows.fnCacheMergeRow.pinned == Rows.fnCacheMergeRow.pinnedBy)) = true := by kernel_rfl
theorem factMerge31 : ((Rows.fnCacheMergeRow.veiled == (Tryz.f5.params.toList ++ Rows.fnCacheMergeSpec.plain.varTypes Tryz.pinned.checked.prog ++ Tryz.f5.resultTypes.toList).any (Tryz.pinned.checked.prog.veiledRec ·))) = true := by kernel_rfl
theorem factMerge32 : (Rows.fnCacheMergeRow.veiledFits Tryz.pinned.checked.prog Tryz.f5.params.toList (Tryz.f5.params.toList ++ Rows.fnCacheMergeSpec.plain.varTypes Tryz.pinned.checked.prog ++ Tryz.f5.resultTypes.toList)) = true := by kernel_rfl
end Go.Proofs.YtmkbebincjppnaaGreatDoor
