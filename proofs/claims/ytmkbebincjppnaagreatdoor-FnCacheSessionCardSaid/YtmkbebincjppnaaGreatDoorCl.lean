/- bytes.Clone of a slice that is not nil: a row of one's own with the same bytes. -/
import Derived.Test.YtmkbebincjppnaaGreatDoorVo
import Derived.Lib.SliceRun
namespace Go.Proofs.YtmkbebincjppnaaGreatDoor
open Go.RowKit Go.Proofs.YtmkbebincjppnaaGreatDoorW.PrintWords Go.Proofs.YtmkbebincjppnaaGreatDoorW.PrintLast Go.Proofs.YtmkbebincjppnaaGreatDoorW.PrintMore
set_option linter.unusedVariables false
set_option linter.unusedSimpArgs false

theorem info_u8 : (Tryz.prog.info? 5).map (fun i => (i.zero, i.size, i.bytes)) = some (some (.int .u8 0), 1, 1) := by kernel_rfl

set_option maxHeartbeats 1000000 in
theorem clone_calls (ad : Addr) (c : Nat) (xs : List Int) (w : World) (hr : (Kd.int .u8).C w (some ad) xs.length xs) (hl : xs.length ≤ 140737488355328) :
    Calls Tryz.prog 115 #[.slice (some ad) xs.length c] w fun e w' => ∃ v, e = .returned v ∧ (Kd.int .u8).R 5 w' w.heap.size (fun _ => True) v xs ∧ Below w.heap.size w w' := by
  have q : ∀ (W : World) (a : Option Addr) (n c n' c' : Nat), (binOp .eql 48 (.slice a n c) (.slice none n' c')).run Tryz.prog W = .ok (.bool a.isNone) W := fun W a n c n' c' => Lib.run_eql_slice_nil W _ _ a n c n' c' Tryz.underlying48
  have HR := Aside0.mk hr
  clear hr
  have HB := Aside0.mk (Below.refl w.heap.size w)
  have HL := Aside0.mk hl
  clear hl
  go_enter Tryz.func115, Tryz.ntmps115
  go_wp2_with (first
    | ((with_reducible refine gate_dst (N := 5) rfl ?_); refine Kd.R_lit (Kd.int .u8) (w0 := w) w.heap.size 5 rfl (N := 5) rfl (xs := []) (inner := []) (ok := fun _ => True) (okp := fun _ => False) ?hr (Reps.none _ _) (fun _ hk => hk.elim) trivial ?hb ?hs (by simp) ?_; (case hr => first | (go_simp; done) | (go_simp; rfl)); (case hb => exact HB.out); (case hs => exact Nat.le_refl _); intro v1 w1 ho hb hg hat; have HO := Aside0.mk ho; have HB1 := Aside0.mk hb; have HR1 := Aside0.mk (Kd.C_below HR.out (Below.mono hb (Nat.le_refl _))); clear ho hb hg hat)
    | ((with_reducible refine gate_dst (N := 7) rfl ?_); refine Kd.R_append_row (Value.int .u8) (0 : Int) (h1 := fun _ => rfl) (w0 := w) w.heap.size rfl (.tmp 5) (.tmp 6) 48 5 (.int .u8 0) 1 rfl Tryz.underlying48 info_u8 rfl (by omega) v1 [] xs (some ad) xs.length c (fun _ => True) rfl rfl (fun _ _ => trivial) HO.out HR1.out HB1.out HB1.out.size ?aL ?_; (case aL => have := HL.out; simp; omega); intro v2 w2 ho hb hg hat; have HO2 := Aside0.mk ho; have HB2 := Aside0.mk hb; clear ho hb hg hat))
  go_ret
  exact ⟨_, rfl, HO2.out, HB2.out⟩
end Go.Proofs.YtmkbebincjppnaaGreatDoor
