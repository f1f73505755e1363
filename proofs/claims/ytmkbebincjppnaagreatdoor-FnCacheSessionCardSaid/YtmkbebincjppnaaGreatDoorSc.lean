/- The card of laws.FnCacheSession: the row holds, and its package variables are tied to the program's text. -/
import Derived.Test.YtmkbebincjppnaaGreatDoorSs
import Derived.Test.YtmkbebincjppnaaGreatDoorTi
import Derived.Test.YtmkbebincjppnaaGreatDoorYa
import Derived.Test.YtmkbebincjppnaaGreatDoorYb
import Derived.Test.YtmkbebincjppnaaGreatDoorYs
import Derived.Test.YtmkbebincjppnaaGreatDoorRows
import Derived.Test.YtmkbebincjppnaaGreatDoorChecked
import Derived.Test.YtmkbebincjppnaaGreatDoorCards
import Derived.SevenTiedAt
import Derived.KernelRfl
namespace Go.Proofs.YtmkbebincjppnaaGreatDoor
open Go
theorem fnCacheSession_tied' : Rows.fnCacheSessionRow.laidByTextAt .later Tryz.pinned [.sentinel, .sentinel, .sentinel, .sentinel, .sentinel, .data, .data, .sentinel, .sentinel] true :=
  OpenClaim.laidByTextAt_later rfl rfl tie' noOwnUnsafe'
theorem fnCacheSession_holds : Rows.FnCacheSessionCardSaid :=
  Claim7.holds_tied_plain_at .later [] [.sentinel, .sentinel, .sentinel, .sentinel, .sentinel, .data, .data, .sentinel, .sentinel] true Rows.fnCacheSessionCard.stood.harness true
    fnCacheSession_over (fun _ h => by cases h) cardSessionWf (fun _ h => by cases h) fnCacheSession_tied' rfl ⟨rfl, rfl⟩ cardMain rfl
    (fun f fn hf hfn => by
      obtain rfl : f = 7 := Option.some.inj (cardSessionNamed.symm.trans hf) |>.symm
      obtain rfl : fn = Tryz.f7 := (Option.some.inj (Tryz.func7.symm.trans hfn)).symm
      exact ⟨cardLooks, fun j t ht => by
        rw [Tryz.params7] at ht
        have hm : t ∈ [74, 29, 3, 29] := by simpa using Array.mem_of_getElem? ht
        exact (show Tryz.prog.wantsStandIn t = false by simpa using List.all_eq_true.1 cardSessionWants t hm)⟩)
    cardSessionGoes
#print axioms fnCacheSession_holds
end Go.Proofs.YtmkbebincjppnaaGreatDoor
