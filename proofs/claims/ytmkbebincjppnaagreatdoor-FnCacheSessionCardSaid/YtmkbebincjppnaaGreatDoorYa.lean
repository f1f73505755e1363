/- The harness of the translation is the one that the cards name. -/
import Derived.Test.YtmkbebincjppnaaGreatDoorRows
import Derived.Test.YtmkbebincjppnaaGreatDoorChecked
import Derived.Test.YtmkbebincjppnaaGreatDoorCards
import Derived.SevenTiedAt
import Derived.KernelRfl
namespace Go.Proofs.YtmkbebincjppnaaGreatDoor
open Go
theorem cardMain : Tryz.pinned.checked.prog.mainIs = some (Rows.fnCacheFinishCard.stood.harness.1, Rows.fnCacheFinishCard.stood.harness.2.toList) := by kernel_rfl
end Go.Proofs.YtmkbebincjppnaaGreatDoor
