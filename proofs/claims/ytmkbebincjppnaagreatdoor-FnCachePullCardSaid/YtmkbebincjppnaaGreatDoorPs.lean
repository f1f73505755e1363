/- The row of laws.FnCachePull. -/
import Derived.Test.YtmkbebincjppnaaGreatDoorKa
import Derived.Test.YtmkbebincjppnaaGreatDoorKb
import Derived.Test.YtmkbebincjppnaaGreatDoorKc
import Derived.Test.YtmkbebincjppnaaGreatDoorPr
import Derived.Test.YtmkbebincjppnaaGreatDoorRows
import Derived.Test.YtmkbebincjppnaaGreatDoorChecked
import Derived.ProofKit
import Derived.JoinedOf
import Derived.KernelRfl
namespace Go.Proofs.YtmkbebincjppnaaGreatDoor
open Go.ChangeShapes Go.WideShapes Go.ChangeAt Go.WideMaps Go.WideElems Go.RowKit
set_option linter.unusedVariables false
theorem bandTruePull {a b : Bool} (ha : a = true) (hb : b = true) : (a && b) = true := by rw [ha, hb]; rfl
set_option maxRecDepth 100000 in
theorem joinedPull : joinedFacts Tryz.pinned.checked.prog 6 Tryz.f6 Rows.fnCachePullSpec Rows.fnCachePullRow = true := by
  unfold joinedFacts
  exact (bandTruePull (bandTruePull (bandTruePull (bandTruePull (bandTruePull (bandTruePull (bandTruePull (bandTruePull (bandTruePull (bandTruePull (bandTruePull (bandTruePull (bandTruePull (bandTruePull (bandTruePull (bandTruePull (bandTruePull (bandTruePull (bandTruePull (bandTruePull (bandTruePull (bandTruePull (bandTruePull (bandTruePull (bandTruePull (bandTruePull (bandTruePull (bandTruePull (bandTruePull (bandTruePull (bandTruePull factPull1 factPull2) factPull3) factPull4) factPull5) factPull6) factPull7) factPull8) factPull9) factPull10) factPull11) factPull12) factPull13) factPull14) factPull15) factPull16) factPull17) factPull18) factPull19) factPull20) factPull21) factPull22) factPull23) factPull24) factPull25) factPull26) factPull27) factPull28) factPull29) factPull30) factPull31) factPull32)
theorem fnCachePull_over : Rows.FnCachePullSaid :=
  OpenClaim.holds_of_wide 6 Tryz.f6 rfl rfl rfl rfl rfl rfl rfl ⟨rfl, rfl, rfl, rfl, rfl⟩ rfl rfl rfl rfl rfl (by kernel_rfl) Tryz.func6 joinedPull
    (of_decide_eq_true (by kernel_rfl)) (by unfold Func.isWrapper; first | (rw [if_pos (by decide +kernel)]; kernel_rfl) | (rw [if_neg (by decide +kernel)]; exact ⟨rfl, rfl⟩))
    (fun os started H enc _ => liftedPull os started H enc)
#print axioms fnCachePull_over
end Go.Proofs.YtmkbebincjppnaaGreatDoor
