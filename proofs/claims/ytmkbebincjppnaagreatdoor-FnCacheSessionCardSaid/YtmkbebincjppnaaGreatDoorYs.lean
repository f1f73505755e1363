/- Closed facts of the card of laws.FnCacheSession. -/
import Derived.Test.YtmkbebincjppnaaGreatDoorRows
import Derived.Test.YtmkbebincjppnaaGreatDoorChecked
import Derived.Test.YtmkbebincjppnaaGreatDoorCards
import Derived.SevenTiedAt
import Derived.KernelRfl
namespace Go.Proofs.YtmkbebincjppnaaGreatDoor
open Go
theorem cardSessionWf : Rows.fnCacheSessionRow.wfByText (OpenSpec.ofChange Rows.fnCacheSessionSpec) = true := by kernel_rfl
theorem cardSessionGoes : false = Rows.fnCacheSessionRow.goesBy Tryz.pinned.checked.prog := by kernel_rfl
theorem cardSessionNamed : Tryz.pinned.checked.prog.funcNamed "pub-convoy/laws.FnCacheSession" = some 7 := by kernel_rfl
theorem cardSessionWants : ([74, 29, 3, 29].all fun u => !Tryz.prog.wantsStandIn u) = true := by kernel_rfl
end Go.Proofs.YtmkbebincjppnaaGreatDoor
