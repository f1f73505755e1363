/- The run that lays the package variables is done in 1000 steps. (The given text's number, 400, is too small for this cut.) -/
import Derived.Test.YtmkbebincjppnaaGreatDoorRows
import Derived.LaidByTextLater
import Derived.SevenTiedAt
namespace Go.Proofs.YtmkbebincjppnaaGreatDoor
open Go
theorem noOwnUnsafe' : Tryz.pinned.checked.prog.headLifts.contains "ownunsafe" = false := by kernel_rfl
theorem varsDone' : ∀ os tape, varsDone Tryz.prog 1000 (varsId Tryz.prog) os tape = true := fun _ _ => by kernel_rfl
theorem laidRun1 : ∀ os tape, (DataW.laidRun Tryz.prog (varsWorld Tryz.prog 1000 (varsId Tryz.prog) os tape).memory 8 (Rows.fnCacheFinishRow.laid.map (·.1))).map (·.1) = some Rows.fnCacheFinishRow.laid := fun _ _ => by kernel_rfl
end Go.Proofs.YtmkbebincjppnaaGreatDoor
