/- The card of laws.FnCachePull: the row holds, and its package variables are tied to the program's text. -/
import Derived.Test.YtmkbebincjppnaaGreatDoorPs
import Derived.Test.YtmkbebincjppnaaGreatDoorTi
import Derived.Test.YtmkbebincjppnaaGreatDoorYa
import Derived.Test.YtmkbebincjppnaaGreatDoorYb
import Derived.Test.YtmkbebincjppnaaGreatDoorYp
import Derived.Test.YtmkbebincjppnaaGreatDoorRows
import Derived.Test.YtmkbebincjppnaaGreatDoorChecked
import Derived.Test.YtmkbebincjppnaaGreatDoorCards
import Derived.SevenTiedAt
import Derived.KernelRfl
namespace Go.Proofs.YtmkbebincjppnaaGreatDoor
open Go
theorem fnCachePull_tied' : Rows.fnCachePullRow.laidByTextAt .later Tryz.pinned [.sentinel, .sentinel, .sentinel, .sentinel, .sentinel, .data, .data, .sentinel, .sentinel] true :=
  OpenClaim.laidByTextAt_later rfl rfl tie' noOwnUnsafe'
theorem fnCachePull_holds : Rows.FnCachePullCardSaid :=
  Claim7.holds_tied_plain_at .later [] [.sentinel, .sentinel, .sentinel, .sentinel, .sentinel, .data, .data, .sentinel, .sentinel] true Rows.fnCachePullCard.stood.harness true
    fnCachePull_over (fun _ h => by cases h) cardPullWf (fun _ h => by cases h) fnCachePull_tied' rfl ⟨rfl, rfl⟩ cardMain rfl
    (fun f fn hf hfn => by
      obtain rfl : f = 6 := Option.some.inj (cardPullNamed.symm.trans hf) |>.symm
      obtain rfl : fn = Tryz.f6 := (Option.some.inj (Tryz.func6.symm.trans hfn)).symm
      exact ⟨cardLooks, fun j t ht => by
        rw [Tryz.params6] at ht
        have hm : t ∈ [22, 23] := by simpa using Array.mem_of_getElem? ht
        exact (show Tryz.prog.wantsStandIn t = false by simpa using List.all_eq_true.1 cardPullWants t hm)⟩)
    cardPullGoes
#print axioms fnCachePull_holds
end Go.Proofs.YtmkbebincjppnaaGreatDoor
