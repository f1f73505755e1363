/-
  DERIVED. GIVEN WITH THE SEED: THE CARDS: each row of YtmkbebincjppnaaGreatDoorRows.lean that lists a variable, with what it lists TIED to the program's text (the seventh form; the later family's looks); each row that meets fmt, with fmt's text TOLD by the authors' own Lean function (tested against real Go, not proved from fmt's source: count such statements apart). THE CARD IS WHAT COUNTS. Prove the row's statement (the work); the ties are given (YtmkbebincjppnaaGreatDoorTie.lean); close each card by the builder's one call (the guide's Derived/Test/ToyasCard.lean, 'card_holds'). Laid BY PROGRAM, IN A SANDBOX (cutbox-door.mjs). By AI agents, Wed Nov 11 2026. No macro, syntax, notation, axiom, sorry.
-/
import Derived.Test.YtmkbebincjppnaaGreatDoorRows
import GoSem.ClaimSeven
namespace Go.Proofs.YtmkbebincjppnaaGreatDoor
namespace Rows

/-- THE TIED CARD OF 'laws.FnCacheFinish'. -/
def fnCacheFinishCard : Claim7 := { stood := { row := fnCacheFinishRow, standIns := [], harness := (true, "cac9d5b94e168fe547ea7c8a7c5a9822e4845bcb9091d4bdf1d80faef277775c"), looks := true }, kinds := [], alts := [], laidByText := true, laidKinds := [.sentinel, .sentinel, .sentinel, .sentinel, .sentinel, .data, .data, .sentinel, .sentinel], laidTests := true, laidLooks := .later }
def FnCacheFinishCardSaid : Prop := Claim7.holds Tryz.pinned (.plain (OpenSpec.ofChange fnCacheFinishSpec)) fnCacheFinishCard

/-- THE TIED CARD OF 'laws.FnCacheFull'. -/
def fnCacheFullCard : Claim7 := { stood := { row := fnCacheFullRow, standIns := [], harness := (true, "cac9d5b94e168fe547ea7c8a7c5a9822e4845bcb9091d4bdf1d80faef277775c"), looks := true }, kinds := [], alts := [], laidByText := true, laidKinds := [.sentinel, .sentinel, .sentinel, .sentinel, .sentinel, .data, .data, .sentinel, .sentinel], laidTests := true, laidLooks := .later }
def FnCacheFullCardSaid : Prop := Claim7.holds Tryz.pinned (.plain (OpenSpec.ofChange fnCacheFullSpec)) fnCacheFullCard

/-- THE TIED CARD OF 'laws.FnCacheMerge'. -/
def fnCacheMergeCard : Claim7 := { stood := { row := fnCacheMergeRow, standIns := [], harness := (true, "cac9d5b94e168fe547ea7c8a7c5a9822e4845bcb9091d4bdf1d80faef277775c"), looks := true }, kinds := [], alts := [], laidByText := true, laidKinds := [.sentinel, .sentinel, .sentinel, .sentinel, .sentinel, .data, .data, .sentinel, .sentinel], laidTests := true, laidLooks := .later }
def FnCacheMergeCardSaid : Prop := Claim7.holds Tryz.pinned (.plain (OpenSpec.ofChange fnCacheMergeSpec)) fnCacheMergeCard

/-- THE TIED CARD OF 'laws.FnCachePull'. -/
def fnCachePullCard : Claim7 := { stood := { row := fnCachePullRow, standIns := [], harness := (true, "cac9d5b94e168fe547ea7c8a7c5a9822e4845bcb9091d4bdf1d80faef277775c"), looks := true }, kinds := [], alts := [], laidByText := true, laidKinds := [.sentinel, .sentinel, .sentinel, .sentinel, .sentinel, .data, .data, .sentinel, .sentinel], laidTests := true, laidLooks := .later }
def FnCachePullCardSaid : Prop := Claim7.holds Tryz.pinned (.plain (OpenSpec.ofChange fnCachePullSpec)) fnCachePullCard

/-- THE TIED CARD OF 'laws.FnCacheSession'. -/
def fnCacheSessionCard : Claim7 := { stood := { row := fnCacheSessionRow, standIns := [], harness := (true, "cac9d5b94e168fe547ea7c8a7c5a9822e4845bcb9091d4bdf1d80faef277775c"), looks := true }, kinds := [], alts := [], laidByText := true, laidKinds := [.sentinel, .sentinel, .sentinel, .sentinel, .sentinel, .data, .data, .sentinel, .sentinel], laidTests := true, laidLooks := .later }
def FnCacheSessionCardSaid : Prop := Claim7.holds Tryz.pinned (.plain (OpenSpec.ofChange fnCacheSessionSpec)) fnCacheSessionCard

/-- THE SECOND FORM's CARD OF 'laws.FnCacheFinish'. -/
def fnCacheFinishUptoCard : Claim7 := { stood := { row := fnCacheFinishUptoRow, standIns := [], harness := (true, "cac9d5b94e168fe547ea7c8a7c5a9822e4845bcb9091d4bdf1d80faef277775c"), looks := true }, kinds := [], alts := [], laidByText := true, laidKinds := [.sentinel, .sentinel, .sentinel, .sentinel, .sentinel, .data, .data, .sentinel, .sentinel], laidTests := true, laidLooks := .later }
def FnCacheFinishUptoCardSaid : Prop := Claim7.holds Tryz.pinned (.plain (OpenSpec.upto fnCacheFinishSpec)) fnCacheFinishUptoCard

/-- THE SECOND FORM's CARD OF 'laws.FnCacheFull'. -/
def fnCacheFullUptoCard : Claim7 := { stood := { row := fnCacheFullUptoRow, standIns := [], harness := (true, "cac9d5b94e168fe547ea7c8a7c5a9822e4845bcb9091d4bdf1d80faef277775c"), looks := true }, kinds := [], alts := [], laidByText := true, laidKinds := [.sentinel, .sentinel, .sentinel, .sentinel, .sentinel, .data, .data, .sentinel, .sentinel], laidTests := true, laidLooks := .later }
def FnCacheFullUptoCardSaid : Prop := Claim7.holds Tryz.pinned (.plain (OpenSpec.upto fnCacheFullSpec)) fnCacheFullUptoCard

/-- THE SECOND FORM's CARD OF 'laws.FnCacheMerge'. -/
def fnCacheMergeUptoCard : Claim7 := { stood := { row := fnCacheMergeUptoRow, standIns := [], harness := (true, "cac9d5b94e168fe547ea7c8a7c5a9822e4845bcb9091d4bdf1d80faef277775c"), looks := true }, kinds := [], alts := [], laidByText := true, laidKinds := [.sentinel, .sentinel, .sentinel, .sentinel, .sentinel, .data, .data, .sentinel, .sentinel], laidTests := true, laidLooks := .later }
def FnCacheMergeUptoCardSaid : Prop := Claim7.holds Tryz.pinned (.plain (OpenSpec.upto fnCacheMergeSpec)) fnCacheMergeUptoCard

/-- THE SECOND FORM's CARD OF 'laws.FnCachePull'. -/
def fnCachePullUptoCard : Claim7 := { stood := { row := fnCachePullUptoRow, standIns := [], harness := (true, "cac9d5b94e168fe547ea7c8a7c5a9822e4845bcb9091d4bdf1d80faef277775c"), looks := true }, kinds := [], alts := [], laidByText := true, laidKinds := [.sentinel, .sentinel, .sentinel, .sentinel, .sentinel, .data, .data, .sentinel, .sentinel], laidTests := true, laidLooks := .later }
def FnCachePullUptoCardSaid : Prop := Claim7.holds Tryz.pinned (.plain (OpenSpec.upto fnCachePullSpec)) fnCachePullUptoCard

/-- THE SECOND FORM's CARD OF 'laws.FnCacheSession'. -/
def fnCacheSessionUptoCard : Claim7 := { stood := { row := fnCacheSessionUptoRow, standIns := [], harness := (true, "cac9d5b94e168fe547ea7c8a7c5a9822e4845bcb9091d4bdf1d80faef277775c"), looks := true }, kinds := [], alts := [], laidByText := true, laidKinds := [.sentinel, .sentinel, .sentinel, .sentinel, .sentinel, .data, .data, .sentinel, .sentinel], laidTests := true, laidLooks := .later }
def FnCacheSessionUptoCardSaid : Prop := Claim7.holds Tryz.pinned (.plain (OpenSpec.upto fnCacheSessionSpec)) fnCacheSessionUptoCard
end Rows
end Go.Proofs.YtmkbebincjppnaaGreatDoor
