/- What the run that lays the package variables leaves, is apart and in rows of its own. -/
import Derived.Test.YtmkbebincjppnaaGreatDoorRows
import Derived.LaidByTextLater
import Derived.SevenTiedAt
namespace Go.Proofs.YtmkbebincjppnaaGreatDoor
open Go
theorem laidRun2 : ∀ os tape, (DataW.laidRun Tryz.prog (varsWorld Tryz.prog 1000 (varsId Tryz.prog) os tape).memory 8 (Rows.fnCacheFinishRow.laid.map (·.1))).map (fun x => decide x.2.Nodup && laidRowsB Tryz.prog (varsWorld Tryz.prog 1000 (varsId Tryz.prog) os tape).memory x.2) = some true := fun _ _ => by kernel_rfl
end Go.Proofs.YtmkbebincjppnaaGreatDoor
