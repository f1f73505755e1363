/- The card of laws.FnCacheMerge: the row holds, and its package variables are tied to the program's text. -/
import Derived.Test.YtmkbebincjppnaaGreatDoorMs
import Derived.Test.YtmkbebincjppnaaGreatDoorTi
import Derived.Test.YtmkbebincjppnaaGreatDoorYa
import Derived.Test.YtmkbebincjppnaaGreatDoorYb
import Derived.Test.YtmkbebincjppnaaGreatDoorYm
import Derived.Test.YtmkbebincjppnaaGreatDoorRows
import Derived.Test.YtmkbebincjppnaaGreatDoorChecked
import Derived.Test.YtmkbebincjppnaaGreatDoorCards
import Derived.SevenTiedAt
import Derived.KernelRfl
namespace Go.Proofs.YtmkbebincjppnaaGreatDoor
open Go
theorem fnCacheMerge_tied' : Rows.fnCacheMergeRow.laidByTextAt .later Tryz.pinned [.sentinel, .sentinel, .sentinel, .sentinel, .sentinel, .data, .data, .sentinel, .sentinel] true :=
  OpenClaim.laidByTextAt_later rfl rfl tie' noOwnUnsafe'
theorem fnCacheMerge_holds : Rows.FnCacheMergeCardSaid :=
  Claim7.holds_tied_plain_at .later [] [.sentinel, .sentinel, .sentinel, .sentinel, .sentinel, .data, .data, .sentinel, .sentinel] true Rows.fnCacheMergeCard.stood.harness true
    fnCacheMerge_over (fun _ h => by cases h) cardMergeWf (fun _ h => by cases h) fnCacheMerge_tied' rfl ⟨rfl, rfl⟩ cardMain rfl
    (fun f fn hf hfn => by
      obtain rfl : f = 5 := Option.some.inj (cardMergeNamed.symm.trans hf) |>.symm
      obtain rfl : fn = Tryz.f5 := (Option.some.inj (Tryz.func5.symm.trans hfn)).symm
      exact ⟨cardLooks, fun j t ht => by
        rw [Tryz.params5] at ht
        have hm : t ∈ [22, 23] := by simpa using Array.mem_of_getElem? ht
        exact (show Tryz.prog.wantsStandIn t = false by simpa using List.all_eq_true.1 cardMergeWants t hm)⟩)
    cardMergeGoes
#print axioms fnCacheMerge_holds
end Go.Proofs.YtmkbebincjppnaaGreatDoor
