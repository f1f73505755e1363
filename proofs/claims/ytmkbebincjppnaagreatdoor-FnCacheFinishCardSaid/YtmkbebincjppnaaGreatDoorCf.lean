/- The card of laws.FnCacheFinish: the row holds, and its package variables are tied to the program's text. -/
import Derived.Test.YtmkbebincjppnaaGreatDoorRg
import Derived.Test.YtmkbebincjppnaaGreatDoorTi
import Derived.Test.YtmkbebincjppnaaGreatDoorYa
import Derived.Test.YtmkbebincjppnaaGreatDoorYb
import Derived.Test.YtmkbebincjppnaaGreatDoorYf
import Derived.Test.YtmkbebincjppnaaGreatDoorRows
import Derived.Test.YtmkbebincjppnaaGreatDoorChecked
import Derived.Test.YtmkbebincjppnaaGreatDoorCards
import Derived.SevenTiedAt
import Derived.KernelRfl
namespace Go.Proofs.YtmkbebincjppnaaGreatDoor
open Go
theorem fnCacheFinish_tied' : Rows.fnCacheFinishRow.laidByTextAt .later Tryz.pinned [.sentinel, .sentinel, .sentinel, .sentinel, .sentinel, .data, .data, .sentinel, .sentinel] true :=
  OpenClaim.laidByTextAt_later rfl rfl tie' noOwnUnsafe'
theorem fnCacheFinish_holds : Rows.FnCacheFinishCardSaid :=
  Claim7.holds_tied_plain_at .later [] [.sentinel, .sentinel, .sentinel, .sentinel, .sentinel, .data, .data, .sentinel, .sentinel] true Rows.fnCacheFinishCard.stood.harness true
    fnCacheFinish_over (fun _ h => by cases h) cardFinishWf (fun _ h => by cases h) fnCacheFinish_tied' rfl ⟨rfl, rfl⟩ cardMain rfl
    (fun f fn hf hfn => by
      obtain rfl : f = 3 := Option.some.inj (cardFinishNamed.symm.trans hf) |>.symm
      obtain rfl : fn = Tryz.f3 := (Option.some.inj (Tryz.func3.symm.trans hfn)).symm
      exact ⟨cardLooks, fun j t ht => by
        rw [Tryz.params3] at ht
        have hm : t ∈ [22, 22, 23] := by simpa using Array.mem_of_getElem? ht
        exact (show Tryz.prog.wantsStandIn t = false by simpa using List.all_eq_true.1 cardFinishWants t hm)⟩)
    cardFinishGoes
#print axioms fnCacheFinish_holds
end Go.Proofs.YtmkbebincjppnaaGreatDoor
