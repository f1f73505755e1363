-- Printed by a program (the kit's print.py, called by wip/pr.sh of this session): not typed by hand.
import Derived.Test.YtmkbebincjppnaaGreatDoorPLibx0
namespace Go.Proofs.YtmkbebincjppnaaGreatDoor.PLib
open Go.RowKit Go.Proofs.YtmkbebincjppnaaGreatDoorW.PrintWords Go.Proofs.YtmkbebincjppnaaGreatDoorW.PrintLast Go.Proofs.YtmkbebincjppnaaGreatDoorW.PrintMore
attribute [local go_sem] max2_int min2_int max_two min_two max_three min_three max_four min_four   -- for this text's walks alone
set_option linter.unusedVariables false
set_option linter.unusedSimpArgs false

/-! ### spec_FlightPull: function 19 -/
mutual
def spec_FlightPull.l0 : Nat → List (S62) → List (S45) → List Int → Int → Option (List Int)
  | 0, _, _, _, _ => none
  | k + 1, x0, x1, x5, x6 => if x6 < (x1.length : Int) then (spec_FlightPull.l1 k x0 x1 x5 x6 (-1) 0) else (some x5)
def spec_FlightPull.l1 : Nat → List (S62) → List (S45) → List Int → Int → Int → Int → Option (List Int)
  | 0, _, _, _, _, _, _ => none
  | k + 1, x0, x1, x5, x6, x7, x8 => if x8 < (x0.length : Int) then (if 0 ≤ x8 then (if 0 ≤ x6 then (if x6 < (x1.length : Int) then (if ((rd_T62 x0 x8).f3) = ((rd_T45 x1 x6).f0) then (if ((rd_T62 x0 x8).f1) = ((rd_T45 x1 x6).f1) then (if (((rd_T62 x0 x8).f4) == ((rd_T45 x1 x6).f2)) = true then (spec_FlightPull.l1 k x0 x1 x5 x6 x8 (wrap64 (x8 + 1))) else (spec_FlightPull.l1 k x0 x1 x5 x6 x7 (wrap64 (x8 + 1)))) else (spec_FlightPull.l1 k x0 x1 x5 x6 x7 (wrap64 (x8 + 1)))) else (spec_FlightPull.l1 k x0 x1 x5 x6 x7 (wrap64 (x8 + 1)))) else (none)) else (none)) else (none)) else (if x5.length < 17592186044416 then (spec_FlightPull.l0 k x0 x1 (x5 ++ [x7]) (wrap64 (x6 + 1))) else (none))
end
def spec_FlightPull.f (k : Nat) (l0 : List (S62)) (l1 : List (S45)) : Option (List Int) := spec_FlightPull.l0 k l0 l1 ([] : List Int) 0
theorem spec_FlightPull.mono_l : ∀ k, (∀ y0 y1 y2 y3, LeO (spec_FlightPull.l0 k y0 y1 y2 y3) (spec_FlightPull.l0 (k + 1) y0 y1 y2 y3)) ∧ (∀ y0 y1 y2 y3 y4 y5, LeO (spec_FlightPull.l1 k y0 y1 y2 y3 y4 y5) (spec_FlightPull.l1 (k + 1) y0 y1 y2 y3 y4 y5))
  | 0 => ⟨fun _ _ _ _ r h => by simp [spec_FlightPull.l0] at h, fun _ _ _ _ _ _ r h => by simp [spec_FlightPull.l1] at h⟩
  | k + 1 => by
    obtain ⟨ih0, ih1⟩ := spec_FlightPull.mono_l k
    refine ⟨?_, ?_⟩
    · intro y0 y1 y2 y3
      unfold spec_FlightPull.l0
      repeat' first
      | (with_reducible exact ih0 _ _ _ _)
      | (with_reducible exact ih1 _ _ _ _ _ _)
      | (with_reducible exact LeO.refl _)
      | (with_reducible exact LeO.none _)
      | (with_reducible refine LeO.ite ?_ ?_)
      | (with_reducible refine LeO.bind ?_ (fun _ => ?_))
      | exact ih0 _ _ _ _
      | exact ih1 _ _ _ _ _ _
      | exact LeO.none _
      | refine LeO.ite ?_ ?_
      | refine LeO.bind ?_ (fun _ => ?_)
    · intro y0 y1 y2 y3 y4 y5
      unfold spec_FlightPull.l1
      repeat' first
      | (with_reducible exact ih0 _ _ _ _)
      | (with_reducible exact ih1 _ _ _ _ _ _)
      | (with_reducible exact LeO.refl _)
      | (with_reducible exact LeO.none _)
      | (with_reducible refine LeO.ite ?_ ?_)
      | (with_reducible refine LeO.bind ?_ (fun _ => ?_))
      | exact ih0 _ _ _ _
      | exact ih1 _ _ _ _ _ _
      | exact LeO.none _
      | refine LeO.ite ?_ ?_
      | refine LeO.bind ?_ (fun _ => ?_)
theorem spec_FlightPull.mono : ∀ a0 a1 k, LeO (spec_FlightPull.f k a0 a1) (spec_FlightPull.f (k + 1) a0 a1) := by
  intro a0 a1 k
  obtain ⟨ih0, ih1⟩ := spec_FlightPull.mono_l k
  unfold spec_FlightPull.f
  repeat' first
      | (with_reducible exact ih0 _ _ _ _)
      | (with_reducible exact ih1 _ _ _ _ _ _)
      | (with_reducible exact LeO.refl _)
      | (with_reducible exact LeO.none _)
      | (with_reducible refine LeO.ite ?_ ?_)
      | (with_reducible refine LeO.bind ?_ (fun _ => ?_))
      | exact ih0 _ _ _ _
      | exact ih1 _ _ _ _ _ _
      | exact LeO.none _
      | refine LeO.ite ?_ ?_
      | refine LeO.bind ?_ (fun _ => ?_)
set_option maxHeartbeats 8000000 in
set_option maxRecDepth 100000 in
theorem spec_FlightPull.calls (k : Nat) (A0 : Option Addr) (c0 : Nat) (l0 : List (S62)) (A1 : Option Addr) (c1 : Nat) (l1 : List (S45)) (r : List Int) (w : World) (hr0 : Kd.C k62 w A0 l0.length l0) (hc0 : l0.length ≤ c0) (hr1 : Kd.C k45 w A1 l1.length l1) (hc1 : l1.length ≤ c1) (h : spec_FlightPull.f k l0 l1 = some r) :
    Calls Tryz.prog 19 #[.slice A0 l0.length c0, .slice A1 l1.length c1] w fun e w' => ∃ v0_ : Value, e = .returned (v0_) ∧ Kd.R (Kd.int .i64) 3 w' w.heap.size (fun _ => True) v0_ r ∧ Below w.heap.size w w' := by
  have HR0 := Aside0.mk hr0
  have HC0 := Aside0.mk hc0
  clear hr0 hc0
  have HR1 := Aside0.mk hr1
  have HC1 := Aside0.mk hc1
  clear hr1 hc1
  have HB := Aside0.mk (Below.refl w.heap.size w)
  have H : (spec_FlightPull.l0 k l0 l1 ([] : List Int) 0) = some r := h
  clear h
  have H' := Aside0.mk H
  clear H
  go_enter Tryz.func19, Tryz.ntmps19
  go_wp2
  repeat (go_quiet (fail); try go_wp2)
  go_loopg [5, 6] k (fun kq v5 v6 w' => ∃ (x5_1 : List Int) (x6_1 : Int), v6 = .int .i64 x6_1 ∧ Aside0 (spec_FlightPull.l0 kq l0 l1 x5_1 x6_1 = some r) ∧ Aside0 (kq ≤ k) ∧ Aside0 (Kd.R (Kd.int .i64) 3 w' w.heap.size (fun _ => True) v5 x5_1) ∧ Aside0 (Below w.heap.size w w'))
  case atStart => exact ⟨(([] : List Int)), (0), (by first | rfl | (simp; done) | (simp [*]; done)), H', ⟨Nat.le_refl _⟩, ⟨by first | exact Kd.R_nil _ _ _ _ _ | exact Kd.N_nil _ _ _ _ _ | exact Kd.V_nil _ _ _ _ _ | exact Kd.Q_nil _ _ _ _ _ | exact Kd.S_nil _ _ _ _ _⟩, ⟨by repeat (first | (with_reducible first | exact HB.out | apply below_alloc | apply pw_below_drewN | apply below_drew1) | exact HB.out)⟩⟩
  case round =>
    clear H'
    try clear c1
    try clear p2
    obtain ⟨x5_1, x6_1, rfl, HA, HK1, HO_5, HB⟩ := hrel
    cases gk with
    | zero => exact absurd HA.out (by simp [spec_FlightPull.l0])
    | succ k1 =>
      have H := HA.out
      clear HA
      simp only [spec_FlightPull.l0] at H
      by_cases c3 : x6_1 < (l1.length : Int)
      · rw [if_pos c3] at H
        have c3b0 : decide (x6_1 < (l1.length : Int)) = true := decide_eq_true c3
        clear c3
        have H' := Aside0.mk H
        clear H
        go_wp2
        repeat (go_quiet (fail); try go_wp2)
        go_loopg [7, 8] k1 (fun kq v7 v8 w' => ∃ (x7_2 : Int) (x8_2 : Int), v7 = .int .i64 x7_2 ∧ v8 = .int .i64 x8_2 ∧ Aside0 (spec_FlightPull.l1 kq l0 l1 x5_1 x6_1 x7_2 x8_2 = some r) ∧ Aside0 (kq ≤ k1) ∧ Aside0 (Kd.R (Kd.int .i64) 3 w' w.heap.size (fun _ => True) u5 x5_1) ∧ Aside0 (Below w.heap.size w w'))
        case atStart => exact ⟨((-1)), (0), (by first | rfl | (simp; done) | (simp [*]; done)), (by first | rfl | (simp; done) | (simp [*]; done)), H', ⟨Nat.le_refl _⟩, ⟨by (with_reducible repeat (first | apply Kd.R_alloc | apply Kd.R_drewN | apply Kd.R_drew)); exact HO_5.out⟩, ⟨by repeat (first | (with_reducible first | exact HB.out | apply below_alloc | apply pw_below_drewN | apply below_drew1) | exact HB.out)⟩⟩
        case round =>
          clear H'
          try clear c1
          try clear p2
          try clear c3
          try clear c3b0
          try clear p2
          obtain ⟨x7_2, x8_2, rfl, rfl, HA, HK2, HO_5, HB⟩ := hrel
          cases gk with
          | zero => exact absurd HA.out (by simp [spec_FlightPull.l1])
          | succ k2 =>
            have H := HA.out
            clear HA
            simp only [spec_FlightPull.l1] at H
            by_cases c4 : x8_2 < (l0.length : Int)
            · rw [if_pos c4] at H
              have c4b0 : decide (x8_2 < (l0.length : Int)) = true := decide_eq_true c4
              clear c4
              by_cases c5 : 0 ≤ x8_2
              · rw [if_pos c5] at H
                have c5b0 : decide (0 ≤ x8_2) = true := decide_eq_true c5
                clear c5
                by_cases c6 : 0 ≤ x6_1
                · rw [if_pos c6] at H
                  have c6b0 : decide (0 ≤ x6_1) = true := decide_eq_true c6
                  clear c6
                  by_cases c7 : x6_1 < (l1.length : Int)
                  · rw [if_pos c7] at H
                    have c7b0 : decide (x6_1 < (l1.length : Int)) = true := decide_eq_true c7
                    clear c7
                    by_cases c8 : ((rd_T62 l0 x8_2).f3) = ((rd_T45 l1 x6_1).f0)
                    · rw [if_pos c8] at H
                      have c8b0 : (((rd_T62 l0 x8_2).f3) == ((rd_T45 l1 x6_1).f0)) = true := beq_iff_eq.mpr c8
                      have c8b1 : (((rd_T62 l0 x8_2).f3) != ((rd_T45 l1 x6_1).f0)) = false := bne_eq_false_iff_eq.mpr c8
                      clear c8
                      by_cases c9 : ((rd_T62 l0 x8_2).f1) = ((rd_T45 l1 x6_1).f1)
                      · rw [if_pos c9] at H
                        have c9b0 : (((rd_T62 l0 x8_2).f1) == ((rd_T45 l1 x6_1).f1)) = true := beq_iff_eq.mpr c9
                        have c9b1 : (((rd_T62 l0 x8_2).f1) != ((rd_T45 l1 x6_1).f1)) = false := bne_eq_false_iff_eq.mpr c9
                        clear c9
                        by_cases c10 : (((rd_T62 l0 x8_2).f4) == ((rd_T45 l1 x6_1).f2)) = true
                        · rw [if_pos c10] at H
                          have c10b0 : (((rd_T62 l0 x8_2).f4) == ((rd_T45 l1 x6_1).f2)) = true := c10
                          (try (have c10b1 : decide (((rd_T62 l0 x8_2).f4) = ((rd_T45 l1 x6_1).f2)) = true := by simpa using c10))
                          (try (have c10b2 : (((rd_T62 l0 x8_2).f4) == ((rd_T45 l1 x6_1).f2)) = true := by simpa using c10))
                          clear c10
                          have H' := Aside0.mk H
                          clear H
                          have p125 : 0 ≤ (x8_2 : Int) := of_decide_eq_true (by first | (with_reducible assumption) | assumption)
                          have q125 : x8_2 < (l0.length : Int) := of_decide_eq_true (by first | (with_reducible assumption) | assumption)
                          obtain ⟨ad125, e125, hx125_0, hx125_1, hx125_2, hx125_3, hx125_4⟩ := at_T62 HR0.out x8_2 p125 q125
                          cases e125
                          replace hx125_0 := (HB.out.cell (World.block_lt_of_cell? w _ hx125_0)).trans hx125_0
                          replace hx125_1 := (HB.out.cell (World.block_lt_of_cell? w _ hx125_1)).trans hx125_1
                          replace hx125_2 := (HB.out.cell (World.block_lt_of_cell? w _ hx125_2)).trans hx125_2
                          replace hx125_3 := (HB.out.cell (World.block_lt_of_cell? w _ hx125_3)).trans hx125_3
                          replace hx125_4 := (HB.out.cell (World.block_lt_of_cell? w _ hx125_4)).trans hx125_4
                          replace p125 := eq_true p125
                          replace q125 := eq_true q125
                          have p126 : 0 ≤ (x6_1 : Int) := of_decide_eq_true (by first | (with_reducible assumption) | assumption)
                          have q126 : x6_1 < (l1.length : Int) := of_decide_eq_true (by first | (with_reducible assumption) | assumption)
                          obtain ⟨ad126, e126, hx126_0, hx126_1, hx126_2, hx126_3⟩ := at_T45 HR1.out x6_1 p126 q126
                          cases e126
                          replace hx126_0 := (HB.out.cell (World.block_lt_of_cell? w _ hx126_0)).trans hx126_0
                          replace hx126_1 := (HB.out.cell (World.block_lt_of_cell? w _ hx126_1)).trans hx126_1
                          replace hx126_2 := (HB.out.cell (World.block_lt_of_cell? w _ hx126_2)).trans hx126_2
                          replace hx126_3 := (HB.out.cell (World.block_lt_of_cell? w _ hx126_3)).trans hx126_3
                          replace p126 := eq_true p126
                          replace q126 := eq_true q126
                          have p127 : 0 ≤ (x8_2 : Int) := of_decide_eq_true (by first | (with_reducible assumption) | assumption)
                          have q127 : x8_2 < (l0.length : Int) := of_decide_eq_true (by first | (with_reducible assumption) | assumption)
                          obtain ⟨ad127, e127, hx127_0, hx127_1, hx127_2, hx127_3, hx127_4⟩ := at_T62 HR0.out x8_2 p127 q127
                          obtain rfl : ad125 = ad127 := (by injection e127)
                          replace hx127_0 := (HB.out.cell (World.block_lt_of_cell? w _ hx127_0)).trans hx127_0
                          replace hx127_1 := (HB.out.cell (World.block_lt_of_cell? w _ hx127_1)).trans hx127_1
                          replace hx127_2 := (HB.out.cell (World.block_lt_of_cell? w _ hx127_2)).trans hx127_2
                          replace hx127_3 := (HB.out.cell (World.block_lt_of_cell? w _ hx127_3)).trans hx127_3
                          replace hx127_4 := (HB.out.cell (World.block_lt_of_cell? w _ hx127_4)).trans hx127_4
                          replace p127 := eq_true p127
                          replace q127 := eq_true q127
                          have p128 : 0 ≤ (x6_1 : Int) := of_decide_eq_true (by first | (with_reducible assumption) | assumption)
                          have q128 : x6_1 < (l1.length : Int) := of_decide_eq_true (by first | (with_reducible assumption) | assumption)
                          obtain ⟨ad128, e128, hx128_0, hx128_1, hx128_2, hx128_3⟩ := at_T45 HR1.out x6_1 p128 q128
                          obtain rfl : ad126 = ad128 := (by injection e128)
                          replace hx128_0 := (HB.out.cell (World.block_lt_of_cell? w _ hx128_0)).trans hx128_0
                          replace hx128_1 := (HB.out.cell (World.block_lt_of_cell? w _ hx128_1)).trans hx128_1
                          replace hx128_2 := (HB.out.cell (World.block_lt_of_cell? w _ hx128_2)).trans hx128_2
                          replace hx128_3 := (HB.out.cell (World.block_lt_of_cell? w _ hx128_3)).trans hx128_3
                          replace p128 := eq_true p128
                          replace q128 := eq_true q128
                          have p129 : 0 ≤ (x8_2 : Int) := of_decide_eq_true (by first | (with_reducible assumption) | assumption)
                          have q129 : x8_2 < (l0.length : Int) := of_decide_eq_true (by first | (with_reducible assumption) | assumption)
                          obtain ⟨ad129, e129, hx129_0, hx129_1, hx129_2, hx129_3, hx129_4⟩ := at_T62 HR0.out x8_2 p129 q129
                          obtain rfl : ad125 = ad129 := (by injection e129)
                          replace hx129_0 := (HB.out.cell (World.block_lt_of_cell? w _ hx129_0)).trans hx129_0
                          replace hx129_1 := (HB.out.cell (World.block_lt_of_cell? w _ hx129_1)).trans hx129_1
                          replace hx129_2 := (HB.out.cell (World.block_lt_of_cell? w _ hx129_2)).trans hx129_2
                          replace hx129_3 := (HB.out.cell (World.block_lt_of_cell? w _ hx129_3)).trans hx129_3
                          replace hx129_4 := (HB.out.cell (World.block_lt_of_cell? w _ hx129_4)).trans hx129_4
                          replace p129 := eq_true p129
                          replace q129 := eq_true q129
                          have p130 : 0 ≤ (x6_1 : Int) := of_decide_eq_true (by first | (with_reducible assumption) | assumption)
                          have q130 : x6_1 < (l1.length : Int) := of_decide_eq_true (by first | (with_reducible assumption) | assumption)
                          obtain ⟨ad130, e130, hx130_0, hx130_1, hx130_2, hx130_3⟩ := at_T45 HR1.out x6_1 p130 q130
                          obtain rfl : ad126 = ad130 := (by injection e130)
                          replace hx130_0 := (HB.out.cell (World.block_lt_of_cell? w _ hx130_0)).trans hx130_0
                          replace hx130_1 := (HB.out.cell (World.block_lt_of_cell? w _ hx130_1)).trans hx130_1
                          replace hx130_2 := (HB.out.cell (World.block_lt_of_cell? w _ hx130_2)).trans hx130_2
                          replace hx130_3 := (HB.out.cell (World.block_lt_of_cell? w _ hx130_3)).trans hx130_3
                          replace p130 := eq_true p130
                          replace q130 := eq_true q130
                          go_wp2
                          repeat (go_quiet (fail); try go_wp2)
                          go_roundg k2
                          case measure => have := HK1.out; have := HK2.out; omega
                          case rel => exact ⟨(x8_2), (wrap64 (x8_2 + 1)), (by first | rfl | (simp; done) | (simp [*]; done)), (by first | rfl | (simp; done) | (simp [*]; done)), H', ⟨by have := HK1.out; have := HK2.out; omega⟩, ⟨by (with_reducible repeat (first | apply Kd.R_alloc | apply Kd.R_drewN | apply Kd.R_drew)); exact HO_5.out⟩, ⟨by repeat (first | (with_reducible first | exact HB.out | apply below_alloc | apply pw_below_drewN | apply below_drew1) | exact HB.out)⟩⟩
                        · rw [if_neg c10] at H
                          have c10b0 : (((rd_T62 l0 x8_2).f4) == ((rd_T45 l1 x6_1).f2)) = false := by simpa using c10
                          (try (have c10b1 : decide (((rd_T62 l0 x8_2).f4) = ((rd_T45 l1 x6_1).f2)) = false := by simpa using c10))
                          (try (have c10b2 : (((rd_T62 l0 x8_2).f4) == ((rd_T45 l1 x6_1).f2)) = false := by simpa using c10))
                          (try (have c10b3 : ¬ (((rd_T62 l0 x8_2).f4) = ((rd_T45 l1 x6_1).f2)) := by simpa using c10))
                          clear c10
                          have H' := Aside0.mk H
                          clear H
                          have p125 : 0 ≤ (x8_2 : Int) := of_decide_eq_true (by first | (with_reducible assumption) | assumption)
                          have q125 : x8_2 < (l0.length : Int) := of_decide_eq_true (by first | (with_reducible assumption) | assumption)
                          obtain ⟨ad125, e125, hx125_0, hx125_1, hx125_2, hx125_3, hx125_4⟩ := at_T62 HR0.out x8_2 p125 q125
                          cases e125
                          replace hx125_0 := (HB.out.cell (World.block_lt_of_cell? w _ hx125_0)).trans hx125_0
                          replace hx125_1 := (HB.out.cell (World.block_lt_of_cell? w _ hx125_1)).trans hx125_1
                          replace hx125_2 := (HB.out.cell (World.block_lt_of_cell? w _ hx125_2)).trans hx125_2
                          replace hx125_3 := (HB.out.cell (World.block_lt_of_cell? w _ hx125_3)).trans hx125_3
                          replace hx125_4 := (HB.out.cell (World.block_lt_of_cell? w _ hx125_4)).trans hx125_4
                          replace p125 := eq_true p125
                          replace q125 := eq_true q125
                          have p126 : 0 ≤ (x6_1 : Int) := of_decide_eq_true (by first | (with_reducible assumption) | assumption)
                          have q126 : x6_1 < (l1.length : Int) := of_decide_eq_true (by first | (with_reducible assumption) | assumption)
                          obtain ⟨ad126, e126, hx126_0, hx126_1, hx126_2, hx126_3⟩ := at_T45 HR1.out x6_1 p126 q126
                          cases e126
                          replace hx126_0 := (HB.out.cell (World.block_lt_of_cell? w _ hx126_0)).trans hx126_0
                          replace hx126_1 := (HB.out.cell (World.block_lt_of_cell? w _ hx126_1)).trans hx126_1
                          replace hx126_2 := (HB.out.cell (World.block_lt_of_cell? w _ hx126_2)).trans hx126_2
                          replace hx126_3 := (HB.out.cell (World.block_lt_of_cell? w _ hx126_3)).trans hx126_3
                          replace p126 := eq_true p126
                          replace q126 := eq_true q126
                          have p127 : 0 ≤ (x8_2 : Int) := of_decide_eq_true (by first | (with_reducible assumption) | assumption)
                          have q127 : x8_2 < (l0.length : Int) := of_decide_eq_true (by first | (with_reducible assumption) | assumption)
                          obtain ⟨ad127, e127, hx127_0, hx127_1, hx127_2, hx127_3, hx127_4⟩ := at_T62 HR0.out x8_2 p127 q127
                          obtain rfl : ad125 = ad127 := (by injection e127)
                          replace hx127_0 := (HB.out.cell (World.block_lt_of_cell? w _ hx127_0)).trans hx127_0
                          replace hx127_1 := (HB.out.cell (World.block_lt_of_cell? w _ hx127_1)).trans hx127_1
                          replace hx127_2 := (HB.out.cell (World.block_lt_of_cell? w _ hx127_2)).trans hx127_2
                          replace hx127_3 := (HB.out.cell (World.block_lt_of_cell? w _ hx127_3)).trans hx127_3
                          replace hx127_4 := (HB.out.cell (World.block_lt_of_cell? w _ hx127_4)).trans hx127_4
                          replace p127 := eq_true p127
                          replace q127 := eq_true q127
                          have p128 : 0 ≤ (x6_1 : Int) := of_decide_eq_true (by first | (with_reducible assumption) | assumption)
                          have q128 : x6_1 < (l1.length : Int) := of_decide_eq_true (by first | (with_reducible assumption) | assumption)
                          obtain ⟨ad128, e128, hx128_0, hx128_1, hx128_2, hx128_3⟩ := at_T45 HR1.out x6_1 p128 q128
                          obtain rfl : ad126 = ad128 := (by injection e128)
                          replace hx128_0 := (HB.out.cell (World.block_lt_of_cell? w _ hx128_0)).trans hx128_0
                          replace hx128_1 := (HB.out.cell (World.block_lt_of_cell? w _ hx128_1)).trans hx128_1
                          replace hx128_2 := (HB.out.cell (World.block_lt_of_cell? w _ hx128_2)).trans hx128_2
                          replace hx128_3 := (HB.out.cell (World.block_lt_of_cell? w _ hx128_3)).trans hx128_3
                          replace p128 := eq_true p128
                          replace q128 := eq_true q128
                          have p129 : 0 ≤ (x8_2 : Int) := of_decide_eq_true (by first | (with_reducible assumption) | assumption)
                          have q129 : x8_2 < (l0.length : Int) := of_decide_eq_true (by first | (with_reducible assumption) | assumption)
                          obtain ⟨ad129, e129, hx129_0, hx129_1, hx129_2, hx129_3, hx129_4⟩ := at_T62 HR0.out x8_2 p129 q129
                          obtain rfl : ad125 = ad129 := (by injection e129)
                          replace hx129_0 := (HB.out.cell (World.block_lt_of_cell? w _ hx129_0)).trans hx129_0
                          replace hx129_1 := (HB.out.cell (World.block_lt_of_cell? w _ hx129_1)).trans hx129_1
                          replace hx129_2 := (HB.out.cell (World.block_lt_of_cell? w _ hx129_2)).trans hx129_2
                          replace hx129_3 := (HB.out.cell (World.block_lt_of_cell? w _ hx129_3)).trans hx129_3
                          replace hx129_4 := (HB.out.cell (World.block_lt_of_cell? w _ hx129_4)).trans hx129_4
                          replace p129 := eq_true p129
                          replace q129 := eq_true q129
                          have p130 : 0 ≤ (x6_1 : Int) := of_decide_eq_true (by first | (with_reducible assumption) | assumption)
                          have q130 : x6_1 < (l1.length : Int) := of_decide_eq_true (by first | (with_reducible assumption) | assumption)
                          obtain ⟨ad130, e130, hx130_0, hx130_1, hx130_2, hx130_3⟩ := at_T45 HR1.out x6_1 p130 q130
                          obtain rfl : ad126 = ad130 := (by injection e130)
                          replace hx130_0 := (HB.out.cell (World.block_lt_of_cell? w _ hx130_0)).trans hx130_0
                          replace hx130_1 := (HB.out.cell (World.block_lt_of_cell? w _ hx130_1)).trans hx130_1
                          replace hx130_2 := (HB.out.cell (World.block_lt_of_cell? w _ hx130_2)).trans hx130_2
                          replace hx130_3 := (HB.out.cell (World.block_lt_of_cell? w _ hx130_3)).trans hx130_3
                          replace p130 := eq_true p130
                          replace q130 := eq_true q130
                          go_wp2
                          repeat (go_quiet (fail); try go_wp2)
                          go_roundg k2
                          case measure => have := HK1.out; have := HK2.out; omega
                          case rel => exact ⟨(x7_2), (wrap64 (x8_2 + 1)), (by first | rfl | (simp; done) | (simp [*]; done)), (by first | rfl | (simp; done) | (simp [*]; done)), H', ⟨by have := HK1.out; have := HK2.out; omega⟩, ⟨by (with_reducible repeat (first | apply Kd.R_alloc | apply Kd.R_drewN | apply Kd.R_drew)); exact HO_5.out⟩, ⟨by repeat (first | (with_reducible first | exact HB.out | apply below_alloc | apply pw_below_drewN | apply below_drew1) | exact HB.out)⟩⟩
                      · rw [if_neg c9] at H
                        have c9b0 : (((rd_T62 l0 x8_2).f1) == ((rd_T45 l1 x6_1).f1)) = false := beq_eq_false_iff_ne.mpr c9
                        have c9b1 : (((rd_T62 l0 x8_2).f1) != ((rd_T45 l1 x6_1).f1)) = true := bne_iff_ne.mpr c9
                        have H' := Aside0.mk H
                        clear H
                        have p125 : 0 ≤ (x8_2 : Int) := of_decide_eq_true (by first | (with_reducible assumption) | assumption)
                        have q125 : x8_2 < (l0.length : Int) := of_decide_eq_true (by first | (with_reducible assumption) | assumption)
                        obtain ⟨ad125, e125, hx125_0, hx125_1, hx125_2, hx125_3, hx125_4⟩ := at_T62 HR0.out x8_2 p125 q125
                        cases e125
                        replace hx125_0 := (HB.out.cell (World.block_lt_of_cell? w _ hx125_0)).trans hx125_0
                        replace hx125_1 := (HB.out.cell (World.block_lt_of_cell? w _ hx125_1)).trans hx125_1
                        replace hx125_2 := (HB.out.cell (World.block_lt_of_cell? w _ hx125_2)).trans hx125_2
                        replace hx125_3 := (HB.out.cell (World.block_lt_of_cell? w _ hx125_3)).trans hx125_3
                        replace hx125_4 := (HB.out.cell (World.block_lt_of_cell? w _ hx125_4)).trans hx125_4
                        replace p125 := eq_true p125
                        replace q125 := eq_true q125
                        have p126 : 0 ≤ (x6_1 : Int) := of_decide_eq_true (by first | (with_reducible assumption) | assumption)
                        have q126 : x6_1 < (l1.length : Int) := of_decide_eq_true (by first | (with_reducible assumption) | assumption)
                        obtain ⟨ad126, e126, hx126_0, hx126_1, hx126_2, hx126_3⟩ := at_T45 HR1.out x6_1 p126 q126
                        cases e126
                        replace hx126_0 := (HB.out.cell (World.block_lt_of_cell? w _ hx126_0)).trans hx126_0
                        replace hx126_1 := (HB.out.cell (World.block_lt_of_cell? w _ hx126_1)).trans hx126_1
                        replace hx126_2 := (HB.out.cell (World.block_lt_of_cell? w _ hx126_2)).trans hx126_2
                        replace hx126_3 := (HB.out.cell (World.block_lt_of_cell? w _ hx126_3)).trans hx126_3
                        replace p126 := eq_true p126
                        replace q126 := eq_true q126
                        have p127 : 0 ≤ (x8_2 : Int) := of_decide_eq_true (by first | (with_reducible assumption) | assumption)
                        have q127 : x8_2 < (l0.length : Int) := of_decide_eq_true (by first | (with_reducible assumption) | assumption)
                        obtain ⟨ad127, e127, hx127_0, hx127_1, hx127_2, hx127_3, hx127_4⟩ := at_T62 HR0.out x8_2 p127 q127
                        obtain rfl : ad125 = ad127 := (by injection e127)
                        replace hx127_0 := (HB.out.cell (World.block_lt_of_cell? w _ hx127_0)).trans hx127_0
                        replace hx127_1 := (HB.out.cell (World.block_lt_of_cell? w _ hx127_1)).trans hx127_1
                        replace hx127_2 := (HB.out.cell (World.block_lt_of_cell? w _ hx127_2)).trans hx127_2
                        replace hx127_3 := (HB.out.cell (World.block_lt_of_cell? w _ hx127_3)).trans hx127_3
                        replace hx127_4 := (HB.out.cell (World.block_lt_of_cell? w _ hx127_4)).trans hx127_4
                        replace p127 := eq_true p127
                        replace q127 := eq_true q127
                        have p128 : 0 ≤ (x6_1 : Int) := of_decide_eq_true (by first | (with_reducible assumption) | assumption)
                        have q128 : x6_1 < (l1.length : Int) := of_decide_eq_true (by first | (with_reducible assumption) | assumption)
                        obtain ⟨ad128, e128, hx128_0, hx128_1, hx128_2, hx128_3⟩ := at_T45 HR1.out x6_1 p128 q128
                        obtain rfl : ad126 = ad128 := (by injection e128)
                        replace hx128_0 := (HB.out.cell (World.block_lt_of_cell? w _ hx128_0)).trans hx128_0
                        replace hx128_1 := (HB.out.cell (World.block_lt_of_cell? w _ hx128_1)).trans hx128_1
                        replace hx128_2 := (HB.out.cell (World.block_lt_of_cell? w _ hx128_2)).trans hx128_2
                        replace hx128_3 := (HB.out.cell (World.block_lt_of_cell? w _ hx128_3)).trans hx128_3
                        replace p128 := eq_true p128
                        replace q128 := eq_true q128
                        go_wp2
                        repeat (go_quiet (fail); try go_wp2)
                        go_roundg k2
                        case measure => have := HK1.out; have := HK2.out; omega
                        case rel => exact ⟨(x7_2), (wrap64 (x8_2 + 1)), (by first | rfl | (simp; done) | (simp [*]; done)), (by first | rfl | (simp; done) | (simp [*]; done)), H', ⟨by have := HK1.out; have := HK2.out; omega⟩, ⟨by (with_reducible repeat (first | apply Kd.R_alloc | apply Kd.R_drewN | apply Kd.R_drew)); exact HO_5.out⟩, ⟨by repeat (first | (with_reducible first | exact HB.out | apply below_alloc | apply pw_below_drewN | apply below_drew1) | exact HB.out)⟩⟩
                    · rw [if_neg c8] at H
                      have c8b0 : (((rd_T62 l0 x8_2).f3) == ((rd_T45 l1 x6_1).f0)) = false := beq_eq_false_iff_ne.mpr c8
                      have c8b1 : (((rd_T62 l0 x8_2).f3) != ((rd_T45 l1 x6_1).f0)) = true := bne_iff_ne.mpr c8
                      have H' := Aside0.mk H
                      clear H
                      have p125 : 0 ≤ (x8_2 : Int) := of_decide_eq_true (by first | (with_reducible assumption) | assumption)
                      have q125 : x8_2 < (l0.length : Int) := of_decide_eq_true (by first | (with_reducible assumption) | assumption)
                      obtain ⟨ad125, e125, hx125_0, hx125_1, hx125_2, hx125_3, hx125_4⟩ := at_T62 HR0.out x8_2 p125 q125
                      cases e125
                      replace hx125_0 := (HB.out.cell (World.block_lt_of_cell? w _ hx125_0)).trans hx125_0
                      replace hx125_1 := (HB.out.cell (World.block_lt_of_cell? w _ hx125_1)).trans hx125_1
                      replace hx125_2 := (HB.out.cell (World.block_lt_of_cell? w _ hx125_2)).trans hx125_2
                      replace hx125_3 := (HB.out.cell (World.block_lt_of_cell? w _ hx125_3)).trans hx125_3
                      replace hx125_4 := (HB.out.cell (World.block_lt_of_cell? w _ hx125_4)).trans hx125_4
                      replace p125 := eq_true p125
                      replace q125 := eq_true q125
                      have p126 : 0 ≤ (x6_1 : Int) := of_decide_eq_true (by first | (with_reducible assumption) | assumption)
                      have q126 : x6_1 < (l1.length : Int) := of_decide_eq_true (by first | (with_reducible assumption) | assumption)
                      obtain ⟨ad126, e126, hx126_0, hx126_1, hx126_2, hx126_3⟩ := at_T45 HR1.out x6_1 p126 q126
                      cases e126
                      replace hx126_0 := (HB.out.cell (World.block_lt_of_cell? w _ hx126_0)).trans hx126_0
                      replace hx126_1 := (HB.out.cell (World.block_lt_of_cell? w _ hx126_1)).trans hx126_1
                      replace hx126_2 := (HB.out.cell (World.block_lt_of_cell? w _ hx126_2)).trans hx126_2
                      replace hx126_3 := (HB.out.cell (World.block_lt_of_cell? w _ hx126_3)).trans hx126_3
                      replace p126 := eq_true p126
                      replace q126 := eq_true q126
                      go_wp2
                      repeat (go_quiet (fail); try go_wp2)
                      go_roundg k2
                      case measure => have := HK1.out; have := HK2.out; omega
                      case rel => exact ⟨(x7_2), (wrap64 (x8_2 + 1)), (by first | rfl | (simp; done) | (simp [*]; done)), (by first | rfl | (simp; done) | (simp [*]; done)), H', ⟨by have := HK1.out; have := HK2.out; omega⟩, ⟨by (with_reducible repeat (first | apply Kd.R_alloc | apply Kd.R_drewN | apply Kd.R_drew)); exact HO_5.out⟩, ⟨by repeat (first | (with_reducible first | exact HB.out | apply below_alloc | apply pw_below_drewN | apply below_drew1) | exact HB.out)⟩⟩
                  · rw [if_neg c7] at H
                    exact absurd H (by simp)
                · rw [if_neg c6] at H
                  exact absurd H (by simp)
              · rw [if_neg c5] at H
                exact absurd H (by simp)
            · rw [if_neg c4] at H
              have c4b0 : decide (x8_2 < (l0.length : Int)) = false := decide_eq_false c4
              clear c4
              by_cases c11 : x5_1.length < 17592186044416
              · rw [if_pos c11] at H
                have LMc11 := Aside0.mk c11
                clear c11
                obtain ⟨y131, hy131⟩ : ∃ y_ : List Int, y_ = (x5_1 ++ [x7_2]) := ⟨_, rfl⟩
                replace H : (spec_FlightPull.l0 k2 l0 l1 y131 (wrap64 (x6_1 + 1))) = some r := by first | (rw [hy131]; with_reducible exact H) | (have H2_ := (Option.bind_some _ _).symm.trans H; rw [hy131]; with_reducible exact H2_) | (have H2_ := (Option.bind_some _ _).symm.trans H; with_reducible exact H2_) | with_reducible exact H | (rw [hy131]; exact H) | exact H
                have Ny131 := Aside0.mk hy131
                clear hy131
                have H' := Aside0.mk H
                clear H
                go_wp2_with (first | ((with_reducible refine gate_builtin (b := .append) (xs := #[.tmp 59, .tmp 61]) rfl ?_); at_builtin; refine Kd.R_append (Kd.int .i64) (w0 := w) w.heap.size rfl (.tmp 59) (.tmp 61) 65 3 (.int .i64 0) 8 rfl Tryz.underlying65 info3 rfl (by decide) (by omega) u5 x5_1 x7_2 [.int .i64 x7_2] (fun _ => True) (fun _ => False) rfl rfl ?aP (fun _ hk => hk.elim) ?aF ?aO ?aB ?aS ?aL ?_; (case aP => exact rfl); (case aB => exact (by repeat (first | (with_reducible first | exact HB.out | apply below_alloc | apply pw_below_drewN | apply below_drew1) | exact HB.out))); (case aF => exact (fun _ _ => trivial)); (case aO => exact (by (with_reducible repeat (first | apply Kd.R_alloc | apply Kd.R_drewN | apply Kd.R_drew)); exact HO_5.out)); (case aS => exact (below_size (by repeat (first | (with_reducible first | exact HB.out | apply below_alloc | apply pw_below_drewN | apply below_drew1) | exact HB.out)))); (case aL => have := LMc11.out; omega); intro v132 w12 ho hb hg hat; rw [← Ny131.out] at ho; have n0_ := Aside0.mk (hb); have n1_ := Aside0.mk (ho); clear HB; clear HO_5; have HB := n0_; have HO133 := n1_; clear n0_ n1_; clear ho hb hg hat))
                repeat (go_quiet (first | ((with_reducible refine gate_builtin (b := .append) (xs := #[.tmp 59, .tmp 61]) rfl ?_); at_builtin; refine Kd.R_append (Kd.int .i64) (w0 := w) w.heap.size rfl (.tmp 59) (.tmp 61) 65 3 (.int .i64 0) 8 rfl Tryz.underlying65 info3 rfl (by decide) (by omega) u5 x5_1 x7_2 [.int .i64 x7_2] (fun _ => True) (fun _ => False) rfl rfl ?aP (fun _ hk => hk.elim) ?aF ?aO ?aB ?aS ?aL ?_; (case aP => exact rfl); (case aB => exact (by repeat (first | (with_reducible first | exact HB.out | apply below_alloc | apply pw_below_drewN | apply below_drew1) | exact HB.out))); (case aF => exact (fun _ _ => trivial)); (case aO => exact (by (with_reducible repeat (first | apply Kd.R_alloc | apply Kd.R_drewN | apply Kd.R_drew)); exact HO_5.out)); (case aS => exact (below_size (by repeat (first | (with_reducible first | exact HB.out | apply below_alloc | apply pw_below_drewN | apply below_drew1) | exact HB.out)))); (case aL => have := LMc11.out; omega); intro v132 w12 ho hb hg hat; rw [← Ny131.out] at ho; have n0_ := Aside0.mk (hb); have n1_ := Aside0.mk (ho); clear HB; clear HO_5; have HB := n0_; have HO133 := n1_; clear n0_ n1_; clear ho hb hg hat)); try go_wp2_with (first | ((with_reducible refine gate_builtin (b := .append) (xs := #[.tmp 59, .tmp 61]) rfl ?_); at_builtin; refine Kd.R_append (Kd.int .i64) (w0 := w) w.heap.size rfl (.tmp 59) (.tmp 61) 65 3 (.int .i64 0) 8 rfl Tryz.underlying65 info3 rfl (by decide) (by omega) u5 x5_1 x7_2 [.int .i64 x7_2] (fun _ => True) (fun _ => False) rfl rfl ?aP (fun _ hk => hk.elim) ?aF ?aO ?aB ?aS ?aL ?_; (case aP => exact rfl); (case aB => exact (by repeat (first | (with_reducible first | exact HB.out | apply below_alloc | apply pw_below_drewN | apply below_drew1) | exact HB.out))); (case aF => exact (fun _ _ => trivial)); (case aO => exact (by (with_reducible repeat (first | apply Kd.R_alloc | apply Kd.R_drewN | apply Kd.R_drew)); exact HO_5.out)); (case aS => exact (below_size (by repeat (first | (with_reducible first | exact HB.out | apply below_alloc | apply pw_below_drewN | apply below_drew1) | exact HB.out)))); (case aL => have := LMc11.out; omega); intro v132 w12 ho hb hg hat; rw [← Ny131.out] at ho; have n0_ := Aside0.mk (hb); have n1_ := Aside0.mk (ho); clear HB; clear HO_5; have HB := n0_; have HO133 := n1_; clear n0_ n1_; clear ho hb hg hat)))
                go_roundg k2
                case measure => have := HK1.out; have := HK2.out; omega
                case rel => exact ⟨(y131), (wrap64 (x6_1 + 1)), (by first | rfl | (simp; done) | (simp [*]; done)), H', ⟨by have := HK1.out; have := HK2.out; omega⟩, ⟨by (with_reducible repeat (first | apply Kd.R_alloc | apply Kd.R_drewN | apply Kd.R_drew)); exact HO133.out⟩, ⟨by repeat (first | (with_reducible first | exact HB.out | apply below_alloc | apply pw_below_drewN | apply below_drew1) | exact HB.out)⟩⟩
              · rw [if_neg c11] at H
                exact absurd H (by simp)
      · rw [if_neg c3] at H
        have c3b0 : decide (x6_1 < (l1.length : Int)) = false := decide_eq_false c3
        clear c3
        obtain rfl := Option.some.inj H
        go_wp2
        repeat (go_quiet (fail); try go_wp2)
        go_ret
        exact ⟨_, by first | rfl | (simp [errW_none, errW_some] <;> rfl) | (simp [*, errW_none, errW_some] <;> rfl), by (with_reducible repeat (first | apply Kd.R_alloc | apply Kd.R_drewN | apply Kd.R_drew)); exact HO_5.out, by repeat (first | (with_reducible first | exact HB.out | apply below_alloc | apply pw_below_drewN | apply below_drew1) | exact HB.out)⟩

/-! ### spec_FlightMerge: function 13 -/
def spec_FlightMerge.l0 : Nat → List (S62) → ByteArray → List Int → Int → Option (ByteArray)
  | 0, _, _, _, _ => none
  | k + 1, x0, x5, x6, x7 => if x7 < (x6.length : Int) then (if 0 ≤ x7 then (if (rd x6 x7) ≥ 0 then (if 0 ≤ (rd x6 x7) then (if (rd x6 x7) < (x0.length : Int) then (if x5.size + ((rd_T62 x0 (rd x6 x7)).f0).size ≤ 9223372036854775807 then (spec_FlightMerge.l0 k x0 (x5 ++ ((rd_T62 x0 (rd x6 x7)).f0)) x6 (wrap64 (x7 + 1))) else (none)) else (none)) else (none)) else (spec_FlightMerge.l0 k x0 x5 x6 (wrap64 (x7 + 1)))) else (none)) else (some x5)
def spec_FlightMerge.f (k : Nat) (l0 : List (S62)) (l1 : List (S45)) : Option (ByteArray) := (spec_FlightPull.f k l0 l1).bind fun t134 => (spec_FlightMerge.l0 k l0 (⟨#[]⟩ : ByteArray) t134 0)
theorem spec_FlightMerge.mono_l : ∀ k, (∀ y0 y1 y2 y3, LeO (spec_FlightMerge.l0 k y0 y1 y2 y3) (spec_FlightMerge.l0 (k + 1) y0 y1 y2 y3))
  | 0 => fun _ _ _ _ r h => by simp [spec_FlightMerge.l0] at h
  | k + 1 => by
    have ih0 := spec_FlightMerge.mono_l k
    · intro y0 y1 y2 y3
      unfold spec_FlightMerge.l0
      repeat' first
      | (with_reducible exact ih0 _ _ _ _)
      | (with_reducible exact spec_FlightPull.mono _ _ _)
      | (with_reducible exact LeO.refl _)
      | (with_reducible exact LeO.none _)
      | (with_reducible refine LeO.ite ?_ ?_)
      | (with_reducible refine LeO.bind ?_ (fun _ => ?_))
      | exact ih0 _ _ _ _
      | exact spec_FlightPull.mono _ _ _
      | exact LeO.none _
      | refine LeO.ite ?_ ?_
      | refine LeO.bind ?_ (fun _ => ?_)
theorem spec_FlightMerge.mono : ∀ a0 a1 k, LeO (spec_FlightMerge.f k a0 a1) (spec_FlightMerge.f (k + 1) a0 a1) := by
  intro a0 a1 k
  have ih0 := spec_FlightMerge.mono_l k
  unfold spec_FlightMerge.f
  repeat' first
      | (with_reducible exact ih0 _ _ _ _)
      | (with_reducible exact spec_FlightPull.mono _ _ _)
      | (with_reducible exact LeO.refl _)
      | (with_reducible exact LeO.none _)
      | (with_reducible refine LeO.ite ?_ ?_)
      | (with_reducible refine LeO.bind ?_ (fun _ => ?_))
      | exact ih0 _ _ _ _
      | exact spec_FlightPull.mono _ _ _
      | exact LeO.none _
      | refine LeO.ite ?_ ?_
      | refine LeO.bind ?_ (fun _ => ?_)
set_option maxHeartbeats 8000000 in
set_option maxRecDepth 100000 in
theorem spec_FlightMerge.calls (k : Nat) (A0 : Option Addr) (c0 : Nat) (l0 : List (S62)) (A1 : Option Addr) (c1 : Nat) (l1 : List (S45)) (r : ByteArray) (w : World) (hr0 : Kd.C k62 w A0 l0.length l0) (hc0 : l0.length ≤ c0) (hr1 : Kd.C k45 w A1 l1.length l1) (hc1 : l1.length ≤ c1) (h : spec_FlightMerge.f k l0 l1 = some r) :
    Calls Tryz.prog 13 #[.slice A0 l0.length c0, .slice A1 l1.length c1] w fun e w' => e = .returned (.string r) ∧ Below w.heap.size w w' := by
  have HR0 := Aside0.mk hr0
  have HC0 := Aside0.mk hc0
  clear hr0 hc0
  have HR1 := Aside0.mk hr1
  have HC1 := Aside0.mk hc1
  clear hr1 hc1
  have HB := Aside0.mk (Below.refl w.heap.size w)
  have H : ((spec_FlightPull.f k l0 l1).bind fun t134 => (spec_FlightMerge.l0 k l0 (⟨#[]⟩ : ByteArray) t134 0)) = some r := h
  clear h
  replace H := Option.bind_eq_some_iff.mp H
  obtain ⟨t134, A30, H⟩ := H
  replace H : (spec_FlightMerge.l0 k l0 (⟨#[]⟩ : ByteArray) t134 0) = some r := H
  have A3 := Aside0.mk A30
  clear A30
  have H' := Aside0.mk H
  clear H
  go_enter Tryz.func13, Tryz.ntmps13
  go_wp2_with (first | ((with_reducible refine gate_callee (f := 19) rfl ?_); refine goesL_ (some 10) rfl rfl Tryz.func19 (by kernel_rfl) rfl #[.slice A0 l0.length c0, .slice A1 l1.length c1] rfl (by (try simp only [List.map_toArray, List.map_cons, List.map_nil]); first | done | rfl | (simp only [List.length_drop, List.length_take]; rfl)) ?_; (with_reducible refine (spec_FlightPull.calls k _ _ l0 _ _ l1 t134 _ ?side1 ?side2 ?side3 ?side4 A3.out).mono ?_); (case side1 => repeat (first | exact HR0.out | (with_reducible refine Kd.C_alloc ?_ _) | (with_reducible refine Kd.C_drewN ?_ _) | (with_reducible refine Kd.C_drew ?_))); (case side2 => exact HC0.out); (case side3 => repeat (first | exact HR1.out | (with_reducible refine Kd.C_alloc ?_ _) | (with_reducible refine Kd.C_drewN ?_ _) | (with_reducible refine Kd.C_drew ?_))); (case side4 => exact HC1.out); rintro e w4 ⟨v135, rfl, ho0, hb⟩; refine ⟨_, rfl, ?_⟩; have n0_ := Aside0.mk (Kd.R_lower ho0 (below_size (by repeat (first | (with_reducible first | exact HB.out | apply below_alloc | apply pw_below_drewN | apply below_drew1) | exact HB.out)))); have n1_ := Aside0.mk (below_step (by repeat (first | (with_reducible first | exact HB.out | apply below_alloc | apply pw_below_drewN | apply below_drew1) | exact HB.out)) hb); clear HB; have HO136 := n0_; have HB := n1_; clear n0_ n1_; (try clear hb); (try clear hb2); (try clear hk); (try clear hi); (try clear ho0)))
  go_loopg [5, 7] k (fun kq v5 v7 w' => ∃ (x5_1 : ByteArray) (x7_1 : Int), v5 = .string x5_1 ∧ v7 = .int .i64 x7_1 ∧ Aside0 (spec_FlightMerge.l0 kq l0 x5_1 t134 x7_1 = some r) ∧ Aside0 (kq ≤ k) ∧ Aside0 (Kd.R (Kd.int .i64) 3 w' w.heap.size (fun _ => True) v135 t134) ∧ Aside0 (Below w.heap.size w w'))
  case atStart => exact ⟨((⟨#[]⟩ : ByteArray)), (0), (by first | rfl | (simp; done) | (simp [*]; done)), (by first | rfl | (simp; done) | (simp [*]; done)), H', ⟨Nat.le_refl _⟩, ⟨by (with_reducible repeat (first | apply Kd.R_alloc | apply Kd.R_drewN | apply Kd.R_drew)); exact HO136.out⟩, ⟨by repeat (first | (with_reducible first | exact HB.out | apply below_alloc | apply pw_below_drewN | apply below_drew1) | exact HB.out)⟩⟩
  case round =>
    clear H'
    try clear c1
    try clear p2
    obtain ⟨x5_1, x7_1, rfl, rfl, HA, HK1, HO_6, HB⟩ := hrel
    cases gk with
    | zero => exact absurd HA.out (by simp [spec_FlightMerge.l0])
    | succ k1 =>
      have H := HA.out
      clear HA
      simp only [spec_FlightMerge.l0] at H
      by_cases c5 : x7_1 < (t134.length : Int)
      · rw [if_pos c5] at H
        have c5b0 : decide (x7_1 < (t134.length : Int)) = true := decide_eq_true c5
        clear c5
        by_cases c6 : 0 ≤ x7_1
        · rw [if_pos c6] at H
          have c6b0 : decide (0 ≤ x7_1) = true := decide_eq_true c6
          clear c6
          by_cases c7 : (rd t134 x7_1) ≥ 0
          · rw [if_pos c7] at H
            have c7b0 : decide (0 ≤ (rd t134 x7_1)) = true := decide_eq_true c7
            clear c7
            by_cases c8 : 0 ≤ (rd t134 x7_1)
            · rw [if_pos c8] at H
              have c8b0 : decide (0 ≤ (rd t134 x7_1)) = true := decide_eq_true c8
              clear c8
              by_cases c9 : (rd t134 x7_1) < (l0.length : Int)
              · rw [if_pos c9] at H
                have c9b0 : decide ((rd t134 x7_1) < (l0.length : Int)) = true := decide_eq_true c9
                clear c9
                by_cases c10 : x5_1.size + ((rd_T62 l0 (rd t134 x7_1)).f0).size ≤ 9223372036854775807
                · rw [if_pos c10] at H
                  have c10b0 := eq_true c10
                  have c10b1 : decide (x5_1.size + ((rd_T62 l0 (rd t134 x7_1)).f0).size ≤ 9223372036854775807) = true := decide_eq_true c10
                  try have c10b2 : (9223372036854775807 < x5_1.size + ((rd_T62 l0 (rd t134 x7_1)).f0).size) = False := eq_false (Nat.not_lt.2 c10)
                  have H' := Aside0.mk H
                  clear H
                  obtain ⟨Ao11, co11, eo11⟩ := Kd.R_slice HO_6.out
                  subst eo11
                  have p137 : 0 ≤ (x7_1 : Int) := of_decide_eq_true (by first | (with_reducible assumption) | assumption)
                  have q137 : x7_1 < (t134.length : Int) := of_decide_eq_true (by first | (with_reducible assumption) | assumption)
                  obtain ⟨ad137, e137, hx137_0⟩ := Kd.at_int (Kd.R_reads' HO_6.out).2.2 x7_1 p137 q137
                  cases e137
                  replace p137 := eq_true p137
                  replace q137 := eq_true q137
                  have p138 : 0 ≤ (x7_1 : Int) := of_decide_eq_true (by first | (with_reducible assumption) | assumption)
                  have q138 : x7_1 < (t134.length : Int) := of_decide_eq_true (by first | (with_reducible assumption) | assumption)
                  obtain ⟨ad138, e138, hx138_0⟩ := Kd.at_int (Kd.R_reads' HO_6.out).2.2 x7_1 p138 q138
                  obtain rfl : ad137 = ad138 := (by injection e138)
                  replace p138 := eq_true p138
                  replace q138 := eq_true q138
                  have p139 : 0 ≤ ((rd t134 x7_1) : Int) := of_decide_eq_true (by first | (with_reducible assumption) | assumption)
                  have q139 : (rd t134 x7_1) < (l0.length : Int) := of_decide_eq_true (by first | (with_reducible assumption) | assumption)
                  obtain ⟨ad139, e139, hx139_0, hx139_1, hx139_2, hx139_3, hx139_4⟩ := at_T62 HR0.out (rd t134 x7_1) p139 q139
                  cases e139
                  replace hx139_0 := (HB.out.cell (World.block_lt_of_cell? w _ hx139_0)).trans hx139_0
                  replace hx139_1 := (HB.out.cell (World.block_lt_of_cell? w _ hx139_1)).trans hx139_1
                  replace hx139_2 := (HB.out.cell (World.block_lt_of_cell? w _ hx139_2)).trans hx139_2
                  replace hx139_3 := (HB.out.cell (World.block_lt_of_cell? w _ hx139_3)).trans hx139_3
                  replace hx139_4 := (HB.out.cell (World.block_lt_of_cell? w _ hx139_4)).trans hx139_4
                  replace p139 := eq_true p139
                  replace q139 := eq_true q139
                  go_wp2
                  go_roundg k1
                  case measure => have := HK1.out; omega
                  case rel => exact ⟨(x5_1 ++ ((rd_T62 l0 (rd t134 x7_1)).f0)), (wrap64 (x7_1 + 1)), (by first | rfl | (simp; done) | (simp [*]; done)), (by first | rfl | (simp; done) | (simp [*]; done)), H', ⟨by have := HK1.out; omega⟩, ⟨by (with_reducible repeat (first | apply Kd.R_alloc | apply Kd.R_drewN | apply Kd.R_drew)); exact HO_6.out⟩, ⟨by repeat (first | (with_reducible first | exact HB.out | apply below_alloc | apply pw_below_drewN | apply below_drew1) | exact HB.out)⟩⟩
                · rw [if_neg c10] at H
                  exact absurd H (by simp)
              · rw [if_neg c9] at H
                exact absurd H (by simp)
            · rw [if_neg c8] at H
              exact absurd H (by simp)
          · rw [if_neg c7] at H
            have c7b0 : decide (0 ≤ (rd t134 x7_1)) = false := decide_eq_false c7
            clear c7
            have H' := Aside0.mk H
            clear H
            obtain ⟨Ao12, co12, eo12⟩ := Kd.R_slice HO_6.out
            subst eo12
            have p137 : 0 ≤ (x7_1 : Int) := of_decide_eq_true (by first | (with_reducible assumption) | assumption)
            have q137 : x7_1 < (t134.length : Int) := of_decide_eq_true (by first | (with_reducible assumption) | assumption)
            obtain ⟨ad137, e137, hx137_0⟩ := Kd.at_int (Kd.R_reads' HO_6.out).2.2 x7_1 p137 q137
            cases e137
            replace p137 := eq_true p137
            replace q137 := eq_true q137
            go_wp2
            go_roundg k1
            case measure => have := HK1.out; omega
            case rel => exact ⟨(x5_1), (wrap64 (x7_1 + 1)), (by first | rfl | (simp; done) | (simp [*]; done)), (by first | rfl | (simp; done) | (simp [*]; done)), H', ⟨by have := HK1.out; omega⟩, ⟨by (with_reducible repeat (first | apply Kd.R_alloc | apply Kd.R_drewN | apply Kd.R_drew)); exact HO_6.out⟩, ⟨by repeat (first | (with_reducible first | exact HB.out | apply below_alloc | apply pw_below_drewN | apply below_drew1) | exact HB.out)⟩⟩
        · rw [if_neg c6] at H
          exact absurd H (by simp)
      · rw [if_neg c5] at H
        have c5b0 : decide (x7_1 < (t134.length : Int)) = false := decide_eq_false c5
        clear c5
        obtain rfl := Option.some.inj H
        obtain ⟨Ao13, co13, eo13⟩ := Kd.R_slice HO_6.out
        subst eo13
        go_wp2
        go_ret
        exact ⟨by first | rfl | (simp [errW_none, errW_some] <;> rfl) | (simp [*, errW_none, errW_some] <;> rfl), by repeat (first | (with_reducible first | exact HB.out | apply below_alloc | apply pw_below_drewN | apply below_drew1) | exact HB.out)⟩

end Go.Proofs.YtmkbebincjppnaaGreatDoor.PLib
