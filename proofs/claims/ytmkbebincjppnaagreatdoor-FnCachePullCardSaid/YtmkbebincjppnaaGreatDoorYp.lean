/- Closed facts of the card of laws.FnCachePull. -/
import Derived.Test.YtmkbebincjppnaaGreatDoorRows
import Derived.Test.YtmkbebincjppnaaGreatDoorChecked
import Derived.Test.YtmkbebincjppnaaGreatDoorCards
import Derived.SevenTiedAt
import Derived.KernelRfl
namespace Go.Proofs.YtmkbebincjppnaaGreatDoor
open Go
theorem cardPullWf : Rows.fnCachePullRow.wfByText (OpenSpec.ofChange Rows.fnCachePullSpec) = true := by kernel_rfl
theorem cardPullGoes : false = Rows.fnCachePullRow.goesBy Tryz.pinned.checked.prog := by kernel_rfl
theorem cardPullNamed : Tryz.pinned.checked.prog.funcNamed "pub-convoy/laws.FnCachePull" = some 6 := by kernel_rfl
theorem cardPullWants : ([22, 23].all fun u => !Tryz.prog.wantsStandIn u) = true := by kernel_rfl
end Go.Proofs.YtmkbebincjppnaaGreatDoor
