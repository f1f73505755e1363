-- Printed by a program (the kit's print.py, called by wip/pr.sh of this session): not typed by hand.
import Derived.Test.YtmkbebincjppnaaGreatDoorPSesx0
namespace Go.Proofs.YtmkbebincjppnaaGreatDoor.PSes
open Go.RowKit Go.Proofs.YtmkbebincjppnaaGreatDoorW.PrintWords Go.Proofs.YtmkbebincjppnaaGreatDoorW.PrintLast Go.Proofs.YtmkbebincjppnaaGreatDoorW.PrintMore
attribute [local go_sem] max2_int min2_int max_two min_two max_three min_three max_four min_four   -- for this text's walks alone
set_option linter.unusedVariables false
set_option linter.unusedSimpArgs false

/-! ### spec_flight: function 78 -/
def spec_flight.l0 : Nat → Bool → Int → List Int → List (S81) → Int → Option ((List (S81)))
  | 0, _, _, _, _, _ => none
  | k + 1, x0, x1, x2, x7, x8 => if x8 < (x2.length : Int) then (if 0 ≤ x8 then (if x7.length < 8796093022208 then (spec_flight.l0 k x0 x1 x2 (x7 ++ [(⟨rd x2 x8, x0, x1⟩ : S81)]) (wrap64 (x8 + 1))) else (none)) else (none)) else (some x7)
def spec_flight.f (k : Nat) (a0 : Bool) (a1 : Int) (l2 : List Int) : Option ((List (S81))) := spec_flight.l0 k a0 a1 l2 ([] : List (S81)) 0
theorem spec_flight.mono_l : ∀ k, (∀ y0 y1 y2 y3 y4, LeO (spec_flight.l0 k y0 y1 y2 y3 y4) (spec_flight.l0 (k + 1) y0 y1 y2 y3 y4))
  | 0 => fun _ _ _ _ _ r h => by simp [spec_flight.l0] at h
  | k + 1 => by
    have ih0 := spec_flight.mono_l k
    · intro y0 y1 y2 y3 y4
      unfold spec_flight.l0
      repeat' first
      | (with_reducible exact ih0 _ _ _ _ _)
      | (with_reducible exact LeO.refl _)
      | (with_reducible exact LeO.none _)
      | (with_reducible refine LeO.ite ?_ ?_)
      | (with_reducible refine LeO.bind ?_ (fun _ => ?_))
      | exact ih0 _ _ _ _ _
      | exact LeO.none _
      | refine LeO.ite ?_ ?_
      | refine LeO.bind ?_ (fun _ => ?_)
theorem spec_flight.mono : ∀ a0 a1 a2 k, LeO (spec_flight.f k a0 a1 a2) (spec_flight.f (k + 1) a0 a1 a2) := by
  intro a0 a1 a2 k
  have ih0 := spec_flight.mono_l k
  unfold spec_flight.f
  repeat' first
      | (with_reducible exact ih0 _ _ _ _ _)
      | (with_reducible exact LeO.refl _)
      | (with_reducible exact LeO.none _)
      | (with_reducible refine LeO.ite ?_ ?_)
      | (with_reducible refine LeO.bind ?_ (fun _ => ?_))
      | exact ih0 _ _ _ _ _
      | exact LeO.none _
      | refine LeO.ite ?_ ?_
      | refine LeO.bind ?_ (fun _ => ?_)
set_option maxHeartbeats 8000000 in
set_option maxRecDepth 100000 in
theorem spec_flight.calls (k : Nat) (a0 : Bool) (a1 : Int) (A2 : Option Addr) (c2 : Nat) (l2 : List Int) (r : List (S81)) (w : World) (hr2 : Kd.C (Kd.int .u8) w A2 l2.length l2) (hc2 : l2.length ≤ c2) (h : spec_flight.f k a0 a1 l2 = some r) :
    Calls Tryz.prog 78 #[.bool a0, .int .i64 a1, .slice A2 l2.length c2] w fun e w' => ∃ v0_ : Value, e = .returned (v0_) ∧ Kd.R k81 81 w' w.heap.size (fun _ => True) v0_ r ∧ Below w.heap.size w w' := by
  have hu81 := Tryz.underlying81
  have HR2 := Aside0.mk hr2
  have HC2 := Aside0.mk hc2
  clear hr2 hc2
  have HB := Aside0.mk (Below.refl w.heap.size w)
  have H : (spec_flight.l0 k a0 a1 l2 ([] : List (S81)) 0) = some r := h
  clear h
  have H' := Aside0.mk H
  clear H
  go_enter Tryz.func78, Tryz.ntmps78
  go_wp2
  go_loopg [7, 8] k (fun kq v7 v8 w' => ∃ (x7_1 : List (S81)) (x8_1 : Int), v8 = .int .i64 x8_1 ∧ Aside0 (spec_flight.l0 kq a0 a1 l2 x7_1 x8_1 = some r) ∧ Aside0 (kq ≤ k) ∧ Aside0 (Kd.R k81 81 w' w.heap.size (fun _ => True) v7 x7_1) ∧ Aside0 (Below w.heap.size w w'))
  case atStart => exact ⟨(([] : List (S81))), (0), (by first | rfl | (simp; done) | (simp [*]; done)), H', ⟨Nat.le_refl _⟩, ⟨by first | exact Kd.R_nil _ _ _ _ _ | exact Kd.N_nil _ _ _ _ _ | exact Kd.V_nil _ _ _ _ _ | exact Kd.Q_nil _ _ _ _ _ | exact Kd.S_nil _ _ _ _ _⟩, ⟨by repeat (first | (with_reducible first | exact HB.out | apply below_alloc | apply pw_below_drewN | apply below_drew1) | exact HB.out)⟩⟩
  case round =>
    clear H'
    try clear c2
    try clear p2
    obtain ⟨x7_1, x8_1, rfl, HA, HK1, HO_7, HB⟩ := hrel
    cases gk with
    | zero => exact absurd HA.out (by simp [spec_flight.l0])
    | succ k1 =>
      have H := HA.out
      clear HA
      simp only [spec_flight.l0] at H
      by_cases c4 : x8_1 < (l2.length : Int)
      · rw [if_pos c4] at H
        have c4b0 : decide (x8_1 < (l2.length : Int)) = true := decide_eq_true c4
        clear c4
        by_cases c5 : 0 ≤ x8_1
        · rw [if_pos c5] at H
          have c5b0 : decide (0 ≤ x8_1) = true := decide_eq_true c5
          clear c5
          by_cases c6 : x7_1.length < 8796093022208
          · rw [if_pos c6] at H
            have LMc6 := Aside0.mk c6
            clear c6
            obtain ⟨y124, hy124⟩ : ∃ y_ : List (S81), y_ = (x7_1 ++ [(⟨rd l2 x8_1, a0, a1⟩ : S81)]) := ⟨_, rfl⟩
            replace H : (spec_flight.l0 k1 a0 a1 l2 y124 (wrap64 (x8_1 + 1))) = some r := by first | (rw [hy124]; with_reducible exact H) | (have H2_ := (Option.bind_some _ _).symm.trans H; rw [hy124]; with_reducible exact H2_) | (have H2_ := (Option.bind_some _ _).symm.trans H; with_reducible exact H2_) | with_reducible exact H | (rw [hy124]; exact H) | exact H
            have Ny124 := Aside0.mk hy124
            clear hy124
            have H' := Aside0.mk H
            clear H
            have p123 : 0 ≤ (x8_1 : Int) := of_decide_eq_true (by first | (with_reducible assumption) | assumption)
            have q123 : x8_1 < (l2.length : Int) := of_decide_eq_true (by first | (with_reducible assumption) | assumption)
            obtain ⟨ad123, e123, hx123_0⟩ := Kd.at_int HR2.out x8_1 p123 q123
            cases e123
            replace hx123_0 := (HB.out.cell (World.block_lt_of_cell? w _ hx123_0)).trans hx123_0
            replace p123 := eq_true p123
            replace q123 := eq_true q123
            go_wp2_with (first | ((with_reducible refine gate_builtin (b := .append) (xs := #[.tmp 15, .tmp 23]) rfl ?_); at_builtin; refine Kd.R_append k81 (w0 := w) w.heap.size rfl (.tmp 15) (.tmp 23) 78 81 (.agg #[(.int .u8 0), (.bool false), (.int .i64 0)]) 16 rfl Tryz.underlying78 info81 rfl (by decide) (by omega) u7 x7_1 (⟨rd l2 x8_1, a0, a1⟩ : S81) [.int .u8 (rd l2 x8_1), .bool a0, .int .i64 a1] (fun _ => True) (fun _ => False) rfl rfl ?aP (fun _ hk => hk.elim) ?aF ?aO ?aB ?aS ?aL ?_; (case aP => exact k81_mkM _ _ _ (⟨rd l2 x8_1, a0, a1⟩ : S81)); (case aB => exact (by repeat (first | (with_reducible first | exact HB.out | apply below_alloc | apply pw_below_drewN | apply below_drew1) | exact HB.out))); (case aF => exact (fun _ _ => trivial)); (case aO => exact (by (with_reducible repeat (first | apply Kd.R_alloc | apply Kd.R_drewN | apply Kd.R_drew)); exact HO_7.out)); (case aS => exact (below_size (by repeat (first | (with_reducible first | exact HB.out | apply below_alloc | apply pw_below_drewN | apply below_drew1) | exact HB.out)))); (case aL => have := LMc6.out; omega); intro v125 w7 ho hb hg hat; rw [← Ny124.out] at ho; have n0_ := Aside0.mk (hb); have n1_ := Aside0.mk (ho); clear HB; clear HO_7; have HB := n0_; have HO126 := n1_; clear n0_ n1_; clear ho hb hg hat))
            go_roundg k1
            case measure => have := HK1.out; omega
            case rel => exact ⟨(y124), (wrap64 (x8_1 + 1)), (by first | rfl | (simp; done) | (simp [*]; done)), H', ⟨by have := HK1.out; omega⟩, ⟨by (with_reducible repeat (first | apply Kd.R_alloc | apply Kd.R_drewN | apply Kd.R_drew)); exact HO126.out⟩, ⟨by repeat (first | (with_reducible first | exact HB.out | apply below_alloc | apply pw_below_drewN | apply below_drew1) | exact HB.out)⟩⟩
          · rw [if_neg c6] at H
            exact absurd H (by simp)
        · rw [if_neg c5] at H
          exact absurd H (by simp)
      · rw [if_neg c4] at H
        have c4b0 : decide (x8_1 < (l2.length : Int)) = false := decide_eq_false c4
        clear c4
        obtain rfl := Option.some.inj H
        go_wp2
        go_ret
        exact ⟨_, by first | rfl | (simp [errW_none, errW_some] <;> rfl) | (simp [*, errW_none, errW_some] <;> rfl), by (with_reducible repeat (first | apply Kd.R_alloc | apply Kd.R_drewN | apply Kd.R_drew)); exact HO_7.out, by repeat (first | (with_reducible first | exact HB.out | apply below_alloc | apply pw_below_drewN | apply below_drew1) | exact HB.out)⟩

end Go.Proofs.YtmkbebincjppnaaGreatDoor.PSes
