/- The translation bears the words of the looks. -/
import Derived.Test.YtmkbebincjppnaaGreatDoorRows
import Derived.Test.YtmkbebincjppnaaGreatDoorChecked
import Derived.Test.YtmkbebincjppnaaGreatDoorCards
import Derived.SevenTiedAt
import Derived.KernelRfl
namespace Go.Proofs.YtmkbebincjppnaaGreatDoor
open Go
theorem cardLooks : true = Tryz.pinned.checked.prog.looks [] := by kernel_rfl
end Go.Proofs.YtmkbebincjppnaaGreatDoor
