/- The row of laws.FnCacheMerge. -/
import Derived.Test.YtmkbebincjppnaaGreatDoorHa
import Derived.Test.YtmkbebincjppnaaGreatDoorHb
import Derived.Test.YtmkbebincjppnaaGreatDoorHc
import Derived.Test.YtmkbebincjppnaaGreatDoorMr
import Derived.Test.YtmkbebincjppnaaGreatDoorRows
import Derived.Test.YtmkbebincjppnaaGreatDoorChecked
import Derived.ProofKit
import Derived.JoinedOf
import Derived.KernelRfl
namespace Go.Proofs.YtmkbebincjppnaaGreatDoor
open Go.ChangeShapes Go.WideShapes Go.ChangeAt Go.WideMaps Go.WideElems Go.RowKit
set_option linter.unusedVariables false
theorem bandTrueMerge {a b : Bool} (ha : a = true) (hb : b = true) : (a && b) = true := by rw [ha, hb]; rfl
set_option maxRecDepth 100000 in
theorem joinedMerge : joinedFacts Tryz.pinned.checked.prog 5 Tryz.f5 Rows.fnCacheMergeSpec Rows.fnCacheMergeRow = true := by
  unfold joinedFacts
  exact (bandTrueMerge (bandTrueMerge (bandTrueMerge (bandTrueMerge (bandTrueMerge (bandTrueMerge (bandTrueMerge (bandTrueMerge (bandTrueMerge (bandTrueMerge (bandTrueMerge (bandTrueMerge (bandTrueMerge (bandTrueMerge (bandTrueMerge (bandTrueMerge (bandTrueMerge (bandTrueMerge (bandTrueMerge (bandTrueMerge (bandTrueMerge (bandTrueMerge (bandTrueMerge (bandTrueMerge (bandTrueMerge (bandTrueMerge (bandTrueMerge (bandTrueMerge (bandTrueMerge (bandTrueMerge (bandTrueMerge factMerge1 factMerge2) factMerge3) factMerge4) factMerge5) factMerge6) factMerge7) factMerge8) factMerge9) factMerge10) factMerge11) factMerge12) factMerge13) factMerge14) factMerge15) factMerge16) factMerge17) factMerge18) factMerge19) factMerge20) factMerge21) factMerge22) factMerge23) factMerge24) factMerge25) factMerge26) factMerge27) factMerge28) factMerge29) factMerge30) factMerge31) factMerge32)
theorem fnCacheMerge_over : Rows.FnCacheMergeSaid :=
  OpenClaim.holds_of_wide 5 Tryz.f5 rfl rfl rfl rfl rfl rfl rfl ⟨rfl, rfl, rfl, rfl, rfl⟩ rfl rfl rfl rfl rfl (by kernel_rfl) Tryz.func5 joinedMerge
    (of_decide_eq_true (by kernel_rfl)) (by unfold Func.isWrapper; first | (rw [if_pos (by decide +kernel)]; kernel_rfl) | (rw [if_neg (by decide +kernel)]; exact ⟨rfl, rfl⟩))
    (fun os started H enc _ => liftedMerge os started H enc)
#print axioms fnCacheMerge_over
end Go.Proofs.YtmkbebincjppnaaGreatDoor
