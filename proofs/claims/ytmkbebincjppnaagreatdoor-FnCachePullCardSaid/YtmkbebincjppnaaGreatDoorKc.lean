/- Closed facts of the row of laws.FnCachePull, one by one. (Printed by wip/facts.py.) -/
import Derived.Test.YtmkbebincjppnaaGreatDoorRows
import Derived.Test.YtmkbebincjppnaaGreatDoorChecked
import Derived.ProofKit
import Derived.JoinedOf
import Derived.KernelRfl
namespace Go.Proofs.YtmkbebincjppnaaGreatDoor
open Go
theorem factPull14 : ((Rows.fnCachePullRow.maps == (Tryz.f6.params.toList ++ Rows.fnCachePullSpec.plain.varTypes Tryz.pinned.checked.prog).any (Tryz.pinned.checked.prog.mapsRec ·))) = true := by kernel_rfl
theorem factPull15 : ((Rows.fnCachePullRow.ifaces == (Tryz.f6.params.toList ++ Rows.fnCachePullSpec.plain.varTypes Tryz.pinned.checked.prog).any (Tryz.pinned.checked.prog.ifacesRec ·))) = true := by kernel_rfl
theorem factPull16 : ((Rows.fnCachePullRow.mapsOut == Tryz.pinned.checked.prog.mapsAmong Tryz.f6.resultTypes.toList)) = true := by kernel_rfl
theorem factPull17 : ((Rows.fnCachePullRow.loops == (Tryz.f6.params.toList ++ Rows.fnCachePullSpec.plain.varTypes Tryz.pinned.checked.prog).any (Tryz.pinned.checked.prog.loopsFrom ·))) = true := by kernel_rfl
theorem factPull18 : ((Rows.fnCachePullRow.wideKeys == (Tryz.f6.params.toList ++ Rows.fnCachePullSpec.plain.varTypes Tryz.pinned.checked.prog ++ Tryz.f6.resultTypes.toList).any (Tryz.pinned.checked.prog.wideKeysFrom ·))) = true := by kernel_rfl
theorem factPull19 : (Rows.fnCachePullSpec.vars.all (Tryz.pinned.checked.prog.varReadable ·)) = true := by kernel_rfl
theorem factPull20 : (Tryz.f6.resultTypes.all (fun t => Tryz.pinned.checked.prog.readableRec t && decide (t < Tryz.pinned.checked.prog.types.size))) = true := by kernel_rfl
theorem factPull21 : ((Rows.fnCachePullRow.ifacesOut == Tryz.f6.resultTypes.toList.any (Tryz.pinned.checked.prog.ifacesRec ·))) = true := by kernel_rfl
theorem factPull22 : ((Rows.fnCachePullRow.loopsOut == Tryz.f6.resultTypes.toList.any (Tryz.pinned.checked.prog.loopsFrom ·))) = true := by kernel_rfl
theorem factPull23 : ((Rows.fnCachePullRow.plainKeys == Tryz.pinned.checked.prog.plainKeys)) = true := by kernel_rfl
theorem factPull24 : (Rows.fnCachePullRow.shortTexts.isNone) = true := by kernel_rfl
theorem factPull25 : (Tryz.pinned.checked.prog.stopsHeard) = true := by kernel_rfl
theorem factPull26 : (Tryz.pinned.checked.prog.mayEnter) = true := by kernel_rfl
theorem factPull27 : ((Rows.fnCachePullRow.lifted == Tryz.pinned.checked.prog.liftsFinal)) = true := by kernel_rfl
theorem factPull28 : ((Tryz.pinned.checked.prog.make == some Rows.fnCachePullRow.make)) = true := by kernel_rfl
theorem factPull29 : ((Rows.fnCachePullRow.kinds == (if Rows.fnCachePullRow.domain.isEmpty then [] else Tryz.f6.params.toList.map fun t => match Tryz.pinned.checked.prog.underlying t with | some (.int k) => some k | _ => none))) = true := by kernel_rfl
theorem factPull30 : ((Rows.fnCachePullRow.pinned == Rows.fnCachePullRow.pinnedBy)) = true := by kernel_rfl
theorem factPull31 : ((Rows.fnCachePullRow.veiled == (Tryz.f6.params.toList ++ Rows.fnCachePullSpec.plain.varTypes Tryz.pinned.checked.prog ++ Tryz.f6.resultTypes.toList).any (Tryz.pinned.checked.prog.veiledRec ·))) = true := by kernel_rfl
theorem factPull32 : (Rows.fnCachePullRow.veiledFits Tryz.pinned.checked.prog Tryz.f6.params.toList (Tryz.f6.params.toList ++ Rows.fnCachePullSpec.plain.varTypes Tryz.pinned.checked.prog ++ Tryz.f6.resultTypes.toList)) = true := by kernel_rfl
end Go.Proofs.YtmkbebincjppnaaGreatDoor
