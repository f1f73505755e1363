/- Closed facts of the card of laws.FnCacheMerge. -/
import Derived.Test.YtmkbebincjppnaaGreatDoorRows
import Derived.Test.YtmkbebincjppnaaGreatDoorChecked
import Derived.Test.YtmkbebincjppnaaGreatDoorCards
import Derived.SevenTiedAt
import Derived.KernelRfl
namespace Go.Proofs.YtmkbebincjppnaaGreatDoor
open Go
theorem cardMergeWf : Rows.fnCacheMergeRow.wfByText (OpenSpec.ofChange Rows.fnCacheMergeSpec) = true := by kernel_rfl
theorem cardMergeGoes : false = Rows.fnCacheMergeRow.goesBy Tryz.pinned.checked.prog := by kernel_rfl
theorem cardMergeNamed : Tryz.pinned.checked.prog.funcNamed "pub-convoy/laws.FnCacheMerge" = some 5 := by kernel_rfl
theorem cardMergeWants : ([22, 23].all fun u => !Tryz.prog.wantsStandIn u) = true := by kernel_rfl
end Go.Proofs.YtmkbebincjppnaaGreatDoor
