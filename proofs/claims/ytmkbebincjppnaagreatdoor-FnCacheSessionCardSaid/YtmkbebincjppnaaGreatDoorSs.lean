/- The row of laws.FnCacheSession. -/
import Derived.Test.YtmkbebincjppnaaGreatDoorGa
import Derived.Test.YtmkbebincjppnaaGreatDoorGb
import Derived.Test.YtmkbebincjppnaaGreatDoorGc
import Derived.Test.YtmkbebincjppnaaGreatDoorSr
import Derived.Test.YtmkbebincjppnaaGreatDoorRows
import Derived.Test.YtmkbebincjppnaaGreatDoorChecked
import Derived.ProofKit
import Derived.JoinedOf
import Derived.KernelRfl
namespace Go.Proofs.YtmkbebincjppnaaGreatDoor
open Go.ChangeShapes Go.WideShapes Go.ChangeAt Go.WideMaps Go.WideElems Go.RowKit
set_option linter.unusedVariables false
theorem bandTrueSession {a b : Bool} (ha : a = true) (hb : b = true) : (a && b) = true := by rw [ha, hb]; rfl
set_option maxRecDepth 100000 in
theorem joinedSession : joinedFacts Tryz.pinned.checked.prog 7 Tryz.f7 Rows.fnCacheSessionSpec Rows.fnCacheSessionRow = true := by
  unfold joinedFacts
  exact (bandTrueSession (bandTrueSession (bandTrueSession (bandTrueSession (bandTrueSession (bandTrueSession (bandTrueSession (bandTrueSession (bandTrueSession (bandTrueSession (bandTrueSession (bandTrueSession (bandTrueSession (bandTrueSession (bandTrueSession (bandTrueSession (bandTrueSession (bandTrueSession (bandTrueSession (bandTrueSession (bandTrueSession (bandTrueSession (bandTrueSession (bandTrueSession (bandTrueSession (bandTrueSession (bandTrueSession (bandTrueSession (bandTrueSession (bandTrueSession (bandTrueSession factSession1 factSession2) factSession3) factSession4) factSession5) factSession6) factSession7) factSession8) factSession9) factSession10) factSession11) factSession12) factSession13) factSession14) factSession15) factSession16) factSession17) factSession18) factSession19) factSession20) factSession21) factSession22) factSession23) factSession24) factSession25) factSession26) factSession27) factSession28) factSession29) factSession30) factSession31) factSession32)
theorem fnCacheSession_over : Rows.FnCacheSessionSaid :=
  OpenClaim.holds_of_wide 7 Tryz.f7 rfl rfl rfl rfl rfl rfl rfl ⟨rfl, rfl, rfl, rfl, rfl⟩ rfl rfl rfl rfl rfl (by kernel_rfl) Tryz.func7 joinedSession
    (of_decide_eq_true (by kernel_rfl)) (by unfold Func.isWrapper; first | (rw [if_pos (by decide +kernel)]; kernel_rfl) | (rw [if_neg (by decide +kernel)]; exact ⟨rfl, rfl⟩))
    (fun os started H enc _ => liftedSession os started H enc)
#print axioms fnCacheSession_over
end Go.Proofs.YtmkbebincjppnaaGreatDoor
