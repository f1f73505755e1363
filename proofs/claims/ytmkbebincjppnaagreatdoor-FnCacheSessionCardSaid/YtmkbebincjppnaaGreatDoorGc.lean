/- Closed facts of the row of laws.FnCacheSession, one by one. (Printed by wip/facts.py.) -/
import Derived.Test.YtmkbebincjppnaaGreatDoorRows
import Derived.Test.YtmkbebincjppnaaGreatDoorChecked
import Derived.ProofKit
import Derived.JoinedOf
import Derived.KernelRfl
namespace Go.Proofs.YtmkbebincjppnaaGreatDoor
open Go
theorem factSession14 : ((Rows.fnCacheSessionRow.maps == (Tryz.f7.params.toList ++ Rows.fnCacheSessionSpec.plain.varTypes Tryz.pinned.checked.prog).any (Tryz.pinned.checked.prog.mapsRec ·))) = true := by kernel_rfl
theorem factSession15 : ((Rows.fnCacheSessionRow.ifaces == (Tryz.f7.params.toList ++ Rows.fnCacheSessionSpec.plain.varTypes Tryz.pinned.checked.prog).any (Tryz.pinned.checked.prog.ifacesRec ·))) = true := by kernel_rfl
theorem factSession16 : ((Rows.fnCacheSessionRow.mapsOut == Tryz.pinned.checked.prog.mapsAmong Tryz.f7.resultTypes.toList)) = true := by kernel_rfl
theorem factSession17 : ((Rows.fnCacheSessionRow.loops == (Tryz.f7.params.toList ++ Rows.fnCacheSessionSpec.plain.varTypes Tryz.pinned.checked.prog).any (Tryz.pinned.checked.prog.loopsFrom ·))) = true := by kernel_rfl
theorem factSession18 : ((Rows.fnCacheSessionRow.wideKeys == (Tryz.f7.params.toList ++ Rows.fnCacheSessionSpec.plain.varTypes Tryz.pinned.checked.prog ++ Tryz.f7.resultTypes.toList).any (Tryz.pinned.checked.prog.wideKeysFrom ·))) = true := by kernel_rfl
theorem factSession19 : (Rows.fnCacheSessionSpec.vars.all (Tryz.pinned.checked.prog.varReadable ·)) = true := by kernel_rfl
theorem factSession20 : (Tryz.f7.resultTypes.all (fun t => Tryz.pinned.checked.prog.readableRec t && decide (t < Tryz.pinned.checked.prog.types.size))) = true := by kernel_rfl
theorem factSession21 : ((Rows.fnCacheSessionRow.ifacesOut == Tryz.f7.resultTypes.toList.any (Tryz.pinned.checked.prog.ifacesRec ·))) = true := by kernel_rfl
theorem factSession22 : ((Rows.fnCacheSessionRow.loopsOut == Tryz.f7.resultTypes.toList.any (Tryz.pinned.checked.prog.loopsFrom ·))) = true := by kernel_rfl
theorem factSession23 : ((Rows.fnCacheSessionRow.plainKeys == Tryz.pinned.checked.prog.plainKeys)) = true := by kernel_rfl
theorem factSession24 : (Rows.fnCacheSessionRow.shortTexts.isNone) = true := by kernel_rfl
theorem factSession25 : (Tryz.pinned.checked.prog.stopsHeard) = true := by kernel_rfl
theorem factSession26 : (Tryz.pinned.checked.prog.mayEnter) = true := by kernel_rfl
theorem factSession27 : ((Rows.fnCacheSessionRow.lifted == Tryz.pinned.checked.prog.liftsFinal)) = true := by kernel_rfl
theorem factSession28 : ((Tryz.pinned.checked.prog.make == some Rows.fnCacheSessionRow.make)) = true := by kernel_rfl
theorem factSession29 : ((Rows.fnCacheSessionRow.kinds == (if Rows.fnCacheSessionRow.domain.isEmpty then [] else Tryz.f7.params.toList.map fun t => match Tryz.pinned.checked.prog.underlying t with | some (.int k) => some k | _ => none))) = true := by kernel_rfl
theorem factSession30 : ((Rows.fnCacheSessionRow.pinned == Rows.fnCacheSessionRow.pinnedBy)) = true := by kernel_rfl
theorem factSession31 : ((Rows.fnCacheSessionRow.veiled == (Tryz.f7.params.toList ++ Rows.fnCacheSessionSpec.plain.varTypes Tryz.pinned.checked.prog ++ Tryz.f7.resultTypes.toList).any (Tryz.pinned.checked.prog.veiledRec ·))) = true := by kernel_rfl
theorem factSession32 : (Rows.fnCacheSessionRow.veiledFits Tryz.pinned.checked.prog Tryz.f7.params.toList (Tryz.f7.params.toList ++ Rows.fnCacheSessionSpec.plain.varTypes Tryz.pinned.checked.prog ++ Tryz.f7.resultTypes.toList)) = true := by kernel_rfl
end Go.Proofs.YtmkbebincjppnaaGreatDoor
