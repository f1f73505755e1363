/- Closed facts of the card of laws.FnCacheFinish. -/
import Derived.Test.YtmkbebincjppnaaGreatDoorRows
import Derived.Test.YtmkbebincjppnaaGreatDoorChecked
import Derived.Test.YtmkbebincjppnaaGreatDoorCards
import Derived.SevenTiedAt
import Derived.KernelRfl
namespace Go.Proofs.YtmkbebincjppnaaGreatDoor
open Go
theorem cardFinishWf : Rows.fnCacheFinishRow.wfByText (OpenSpec.ofChange Rows.fnCacheFinishSpec) = true := by kernel_rfl
theorem cardFinishGoes : false = Rows.fnCacheFinishRow.goesBy Tryz.pinned.checked.prog := by kernel_rfl
theorem cardFinishNamed : Tryz.pinned.checked.prog.funcNamed "pub-convoy/laws.FnCacheFinish" = some 3 := by kernel_rfl
theorem cardFinishWants : ([22, 22, 23].all fun u => !Tryz.prog.wantsStandIn u) = true := by kernel_rfl
end Go.Proofs.YtmkbebincjppnaaGreatDoor
