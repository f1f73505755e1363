/- The row of laws.FnCacheFinish. -/
import Derived.Test.YtmkbebincjppnaaGreatDoorJa
import Derived.Test.YtmkbebincjppnaaGreatDoorJb
import Derived.Test.YtmkbebincjppnaaGreatDoorJc
import Derived.Test.YtmkbebincjppnaaGreatDoorRf
import Derived.Test.YtmkbebincjppnaaGreatDoorRows
import Derived.Test.YtmkbebincjppnaaGreatDoorChecked
import Derived.ProofKit
import Derived.JoinedOf
import Derived.KernelRfl
namespace Go.Proofs.YtmkbebincjppnaaGreatDoor
open Go.ChangeShapes Go.WideShapes Go.ChangeAt Go.WideMaps Go.WideElems Go.RowKit
set_option linter.unusedVariables false
theorem bandTrueFinish {a b : Bool} (ha : a = true) (hb : b = true) : (a && b) = true := by rw [ha, hb]; rfl
set_option maxRecDepth 100000 in
theorem joinedFinish : joinedFacts Tryz.pinned.checked.prog 3 Tryz.f3 Rows.fnCacheFinishSpec Rows.fnCacheFinishRow = true := by
  unfold joinedFacts
  exact (bandTrueFinish (bandTrueFinish (bandTrueFinish (bandTrueFinish (bandTrueFinish (bandTrueFinish (bandTrueFinish (bandTrueFinish (bandTrueFinish (bandTrueFinish (bandTrueFinish (bandTrueFinish (bandTrueFinish (bandTrueFinish (bandTrueFinish (bandTrueFinish (bandTrueFinish (bandTrueFinish (bandTrueFinish (bandTrueFinish (bandTrueFinish (bandTrueFinish (bandTrueFinish (bandTrueFinish (bandTrueFinish (bandTrueFinish (bandTrueFinish (bandTrueFinish (bandTrueFinish (bandTrueFinish (bandTrueFinish factFinish1 factFinish2) factFinish3) factFinish4) factFinish5) factFinish6) factFinish7) factFinish8) factFinish9) factFinish10) factFinish11) factFinish12) factFinish13) factFinish14) factFinish15) factFinish16) factFinish17) factFinish18) factFinish19) factFinish20) factFinish21) factFinish22) factFinish23) factFinish24) factFinish25) factFinish26) factFinish27) factFinish28) factFinish29) factFinish30) factFinish31) factFinish32)
theorem fnCacheFinish_over : Rows.FnCacheFinishSaid :=
  OpenClaim.holds_of_wide 3 Tryz.f3 rfl rfl rfl rfl rfl rfl rfl ⟨rfl, rfl, rfl, rfl, rfl⟩ rfl rfl rfl rfl rfl (by kernel_rfl) Tryz.func3 joinedFinish
    (of_decide_eq_true (by kernel_rfl)) (by unfold Func.isWrapper; first | (rw [if_pos (by decide +kernel)]; kernel_rfl) | (rw [if_neg (by decide +kernel)]; exact ⟨rfl, rfl⟩))
    (fun os started H enc _ => lifted os started H enc)
#print axioms fnCacheFinish_over
end Go.Proofs.YtmkbebincjppnaaGreatDoor
