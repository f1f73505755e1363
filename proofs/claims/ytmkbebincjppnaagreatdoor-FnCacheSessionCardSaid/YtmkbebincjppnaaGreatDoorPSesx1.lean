-- Printed by a program (the kit's print.py, called by wip/pr.sh of this session): two steps turned by wip/fixses.py.
import Derived.Test.YtmkbebincjppnaaGreatDoorPSesx0
namespace Go.Proofs.YtmkbebincjppnaaGreatDoor.PSes
open Go.RowKit Go.Proofs.YtmkbebincjppnaaGreatDoorW.PrintWords Go.Proofs.YtmkbebincjppnaaGreatDoorW.PrintLast Go.Proofs.YtmkbebincjppnaaGreatDoorW.PrintMore
attribute [local go_sem] max2_int min2_int max_two min_two max_three min_three max_four min_four   -- for this text's walks alone
set_option linter.unusedVariables false
set_option linter.unusedSimpArgs false

/-! ### toy_Size: function 293 -/
def toy_Size.f (a0 : Int) : Option (Int) := some (wrap64 (4 + (wrap64 (4 * (Go.bits .and .i64 a0 7)))))
set_option maxHeartbeats 8000000 in
set_option maxRecDepth 100000 in
theorem toy_Size.calls (a0 : Int) (r : Int) (w : World) (h : toy_Size.f a0 = some r) :
    Calls Tryz.prog 293 #[.int .i64 a0] w fun e w' => e = .returned (.int .i64 r) ∧ Drawn0 w w' := by
  have H : (some (wrap64 (4 + (wrap64 (4 * (Go.bits .and .i64 a0 7)))))) = some r := h
  clear h
  obtain rfl := Option.some.inj H
  go_enter Tryz.func293, Tryz.ntmps293
  go_wp2
  go_ret
  exact ⟨by first | rfl | (simp; done) | (simp [*]; done), by repeat (first | exact Drawn0.refl _ | apply Drawn0.step)⟩

/-! ### toy_Sum: function 292 -/
mutual
def toy_Sum.l0 : Nat → Int → ByteArray → Int → List Int → Int → Option (ByteArray)
  | 0, _, _, _, _, _ => none
  | k + 1, x0, x1, x5, x6, x7 => if x7 < x5 then (if 0 ≤ x7 then (if x7 < (x6.length : Int) then (toy_Sum.l0 k x0 x1 x5 (x6.set (x7 : Int).toNat ((wrap64 ((wrap64 ((wrap64 (7 * x7)) + x0)) + (x1.size : Int))) % 256)) (wrap64 (x7 + 1))) else (none)) else (none)) else (toy_Sum.l1 k x1 x5 x6 0)
def toy_Sum.l1 : Nat → ByteArray → Int → List Int → Int → Option (ByteArray)
  | 0, _, _, _, _ => none
  | k + 1, x1, x5, x6, x8 => if x8 < (x1.size : Int) then (if x5 = 0 then (none) else (if 0 ≤ (Int.tmod x8 x5) then (if (Int.tmod x8 x5) < (x6.length : Int) then (if 0 ≤ x8 then (if 0 ≤ (Int.tmod (wrap64 ((Int.tmod x8 x5) + 1)) x5) then (if (Int.tmod (wrap64 ((Int.tmod x8 x5) + 1)) x5) < (x6.length : Int) then (toy_Sum.l1 k x1 x5 (x6.set ((Int.tmod x8 x5) : Int).toNat (((Go.bits .xor .u8 (((((rd x6 (Int.tmod x8 x5)) + (bt x1 x8)) % 256) * 29) % 256) (rd x6 (Int.tmod (wrap64 ((Int.tmod x8 x5) + 1)) x5))) + ((x8) % 256)) % 256)) (wrap64 (x8 + 1))) else (none)) else (none)) else (none)) else (none)) else (none))) else (toy_Sum.l2 k x5 x6 0)
def toy_Sum.l2 : Nat → Int → List Int → Int → Option (ByteArray)
  | 0, _, _, _ => none
  | k + 1, x5, x6, x10 => if x10 < (wrap64 (2 * x5)) then (if x5 = 0 then (none) else (if 0 ≤ (Int.tmod x10 x5) then (if (Int.tmod x10 x5) < (x6.length : Int) then (if 0 ≤ (Int.tmod (wrap64 ((wrap64 ((Int.tmod x10 x5) + x5)) - 1)) x5) then (if (Int.tmod (wrap64 ((wrap64 ((Int.tmod x10 x5) + x5)) - 1)) x5) < (x6.length : Int) then (toy_Sum.l2 k x5 (x6.set ((Int.tmod x10 x5) : Int).toNat (((((((rd x6 (Int.tmod x10 x5)) * 13) % 256) + (rd x6 (Int.tmod (wrap64 ((wrap64 ((Int.tmod x10 x5) + x5)) - 1)) x5))) % 256) + ((x10) % 256)) % 256)) (wrap64 (x10 + 1))) else (none)) else (none)) else (none)) else (none))) else (some (strOfNums x6))
end
def toy_Sum.f (k : Nat) (a0 : Int) (a1 : ByteArray) : Option (ByteArray) := (toy_Size.f a0).bind fun t101 => (if 0 ≤ t101 then (if (t101 : Int).toNat ≤ 281474976710656 then (toy_Sum.l0 k a0 a1 t101 (List.replicate (t101 : Int).toNat 0) 0) else (none)) else (none))
theorem toy_Sum.mono_l : ∀ k, (∀ y0 y1 y2 y3 y4, LeO (toy_Sum.l0 k y0 y1 y2 y3 y4) (toy_Sum.l0 (k + 1) y0 y1 y2 y3 y4)) ∧ (∀ y0 y1 y2 y3, LeO (toy_Sum.l1 k y0 y1 y2 y3) (toy_Sum.l1 (k + 1) y0 y1 y2 y3)) ∧ (∀ y0 y1 y2, LeO (toy_Sum.l2 k y0 y1 y2) (toy_Sum.l2 (k + 1) y0 y1 y2))
  | 0 => ⟨fun _ _ _ _ _ r h => by simp [toy_Sum.l0] at h, fun _ _ _ _ r h => by simp [toy_Sum.l1] at h, fun _ _ _ r h => by simp [toy_Sum.l2] at h⟩
  | k + 1 => by
    obtain ⟨ih0, ih1, ih2⟩ := toy_Sum.mono_l k
    refine ⟨?_, ?_, ?_⟩
    · intro y0 y1 y2 y3 y4
      unfold toy_Sum.l0
      repeat' first
      | (with_reducible exact ih0 _ _ _ _ _)
      | (with_reducible exact ih1 _ _ _ _)
      | (with_reducible exact ih2 _ _ _)
      | (with_reducible exact LeO.refl _)
      | (with_reducible exact LeO.none _)
      | (with_reducible refine LeO.ite ?_ ?_)
      | (with_reducible refine LeO.bind ?_ (fun _ => ?_))
      | exact ih0 _ _ _ _ _
      | exact ih1 _ _ _ _
      | exact ih2 _ _ _
      | exact LeO.none _
      | refine LeO.ite ?_ ?_
      | refine LeO.bind ?_ (fun _ => ?_)
    · intro y0 y1 y2 y3
      unfold toy_Sum.l1
      repeat' first
      | (with_reducible exact ih0 _ _ _ _ _)
      | (with_reducible exact ih1 _ _ _ _)
      | (with_reducible exact ih2 _ _ _)
      | (with_reducible exact LeO.refl _)
      | (with_reducible exact LeO.none _)
      | (with_reducible refine LeO.ite ?_ ?_)
      | (with_reducible refine LeO.bind ?_ (fun _ => ?_))
      | exact ih0 _ _ _ _ _
      | exact ih1 _ _ _ _
      | exact ih2 _ _ _
      | exact LeO.none _
      | refine LeO.ite ?_ ?_
      | refine LeO.bind ?_ (fun _ => ?_)
    · intro y0 y1 y2
      unfold toy_Sum.l2
      repeat' first
      | (with_reducible exact ih0 _ _ _ _ _)
      | (with_reducible exact ih1 _ _ _ _)
      | (with_reducible exact ih2 _ _ _)
      | (with_reducible exact LeO.refl _)
      | (with_reducible exact LeO.none _)
      | (with_reducible refine LeO.ite ?_ ?_)
      | (with_reducible refine LeO.bind ?_ (fun _ => ?_))
      | exact ih0 _ _ _ _ _
      | exact ih1 _ _ _ _
      | exact ih2 _ _ _
      | exact LeO.none _
      | refine LeO.ite ?_ ?_
      | refine LeO.bind ?_ (fun _ => ?_)
theorem toy_Sum.mono : ∀ a0 a1 k, LeO (toy_Sum.f k a0 a1) (toy_Sum.f (k + 1) a0 a1) := by
  intro a0 a1 k
  obtain ⟨ih0, ih1, ih2⟩ := toy_Sum.mono_l k
  unfold toy_Sum.f
  repeat' first
      | (with_reducible exact ih0 _ _ _ _ _)
      | (with_reducible exact ih1 _ _ _ _)
      | (with_reducible exact ih2 _ _ _)
      | (with_reducible exact LeO.refl _)
      | (with_reducible exact LeO.none _)
      | (with_reducible refine LeO.ite ?_ ?_)
      | (with_reducible refine LeO.bind ?_ (fun _ => ?_))
      | exact ih0 _ _ _ _ _
      | exact ih1 _ _ _ _
      | exact ih2 _ _ _
      | exact LeO.none _
      | refine LeO.ite ?_ ?_
      | refine LeO.bind ?_ (fun _ => ?_)
def toy_Sum.T11 : Bool × List (List Nat × List Nat) := (true, [([], []), ([], []), ([], []), ([], []), ([2, 3], [2, 3]), ([4], [4]), ([], []), ([], []), ([6, 7], [6, 7]), ([5, 8], [5, 8]), ([9], [9]), ([], []), ([], []), ([12], [12]), ([], []), ([13, 14], [13, 14]), ([11, 15], [11, 15]), ([16], [16]), ([10, 17], [10, 17]), ([], []), ([19], [19]), ([18, 20], [18, 20]), ([0, 1, 0, 1, 2, 3, 4, 5, 6, 7, 8, 9, 10, 11, 12, 13, 14, 15, 16, 17, 18, 19, 20, 21], [0, 1]), ([22, 21, 0, 1, 2, 3, 4, 5, 6, 7, 8, 9, 10, 11, 12, 13, 14, 15, 16, 17, 18, 19, 20, 21], [21, 22])])
def toy_Sum.B11 : List Nat := [0, 0, 0, 0, 12, 28, 0, 0, 192, 508, 1020, 0, 0, 4096, 0, 28672, 63488, 129024, 262140, 0, 524288, 2097148, 4194303, 8388607]
theorem toy_Sum.tab11 : rtab .any (opsOf Tryz.f292 11) = toy_Sum.T11 := by kernel_rfl
theorem toy_Sum.bits11 : waitsOk toy_Sum.T11.2 toy_Sum.B11 = true := by kernel_rfl
def toy_Sum.T16 : Bool × List (List Nat × List Nat) := (true, [([], []), ([], []), ([], []), ([], []), ([2, 3], [2, 3]), ([4], [4]), ([5], [5]), ([], []), ([], []), ([], []), ([8, 9], [8, 9]), ([10], [10]), ([], []), ([11, 12], [11, 12]), ([7, 13], [7, 13]), ([14], [14]), ([6, 15], [6, 15]), ([], []), ([17], [17]), ([16, 18], [16, 18]), ([0, 1, 0, 1, 2, 3, 4, 5, 6, 7, 8, 9, 10, 11, 12, 13, 14, 15, 16, 17, 18, 19], [0, 1]), ([20, 19, 0, 1, 2, 3, 4, 5, 6, 7, 8, 9, 10, 11, 12, 13, 14, 15, 16, 17, 18, 19], [19, 20])])
def toy_Sum.B16 : List Nat := [0, 0, 0, 0, 12, 28, 60, 0, 0, 0, 768, 1792, 0, 7936, 16256, 32640, 65532, 0, 131072, 524284, 1048575, 2097151]
theorem toy_Sum.tab16 : rtab .any (opsOf Tryz.f292 16) = toy_Sum.T16 := by kernel_rfl
theorem toy_Sum.bits16 : waitsOk toy_Sum.T16.2 toy_Sum.B16 = true := by kernel_rfl
set_option maxHeartbeats 8000000 in
set_option maxRecDepth 100000 in
theorem toy_Sum.calls (k : Nat) (a0 : Int) (a1 : ByteArray) (r : ByteArray) (w : World) (h : toy_Sum.f k a0 a1 = some r) :
    Calls Tryz.prog 292 #[.int .i64 a0, .string a1] w fun e w' => e = .returned (.string r) ∧ Below w.heap.size w w' := by
  have HB := Aside0.mk (Below.refl w.heap.size w)
  have H : ((toy_Size.f a0).bind fun t101 => (if 0 ≤ t101 then (if (t101 : Int).toNat ≤ 281474976710656 then (toy_Sum.l0 k a0 a1 t101 (List.replicate (t101 : Int).toNat 0) 0) else (none)) else (none))) = some r := h
  clear h
  replace H := Option.bind_eq_some_iff.mp H
  obtain ⟨t101, A30, H⟩ := H
  replace H : (if 0 ≤ t101 then (if (t101 : Int).toNat ≤ 281474976710656 then (toy_Sum.l0 k a0 a1 t101 (List.replicate (t101 : Int).toNat 0) 0) else (none)) else (none)) = some r := H
  have A3 := Aside0.mk A30
  clear A30
  by_cases c4 : 0 ≤ t101
  · rw [if_pos c4] at H
    have c4b0 := eq_true c4
    have c4b1 : decide (0 ≤ t101) = true := decide_eq_true c4
    clear c4
    by_cases c5 : (t101 : Int).toNat ≤ 281474976710656
    · rw [if_pos c5] at H
      have c5b0 := eq_true c5
      have c5b1 : decide ((t101 : Int).toNat ≤ 281474976710656) = true := decide_eq_true c5
      clear c5
      obtain ⟨y102, hy102⟩ : ∃ y_ : List Int, y_ = (List.replicate (t101 : Int).toNat 0) := ⟨_, rfl⟩
      replace H : (toy_Sum.l0 k a0 a1 t101 y102 0) = some r := by first | (rw [hy102]; with_reducible exact H) | (have H2_ := (Option.bind_some _ _).symm.trans H; rw [hy102]; with_reducible exact H2_) | (have H2_ := (Option.bind_some _ _).symm.trans H; with_reducible exact H2_) | with_reducible exact H | (rw [hy102]; exact H) | exact H
      have Ny102 := Aside0.mk hy102
      clear hy102
      have H' := Aside0.mk H
      clear H
      go_enter Tryz.func292, Tryz.ntmps292
      go_wp2_with (first | ((with_reducible refine gate_callee (f := 293) rfl ?_); refine goesL_ (some 13) rfl rfl Tryz.func293 (by kernel_rfl) rfl #[.int .i64 a0] rfl (by (try simp only [List.map_toArray, List.map_cons, List.map_nil]); first | done | rfl | (simp only [List.length_drop, List.length_take]; rfl)) ?_; (with_reducible refine (toy_Size.calls a0 t101 _ A3.out).mono ?_); rintro e w' ⟨rfl, ⟨nd, rfl⟩⟩; refine ⟨_, rfl, ?_⟩) | ((with_reducible refine gate_dst (N := 15) rfl ?_); refine Kd.R_make (Kd.int .u8) _ 5 rfl (N := 15) rfl 48 _ _ rfl t101 rfl rfl Tryz.underlying48 (.int .u8 0) 1 info5 rfl (by decide) (by omega) 0 (ok := fun _ => True) (okp := fun _ => True) rfl (fun _ hk => hk) trivial (of_decide_eq_true (by first | (with_reducible assumption) | assumption)) (Nat.le_trans (Nat.mul_le_mul_right _ (of_decide_eq_true (by first | (with_reducible assumption) | assumption) : t101.toNat ≤ 281474976710656)) (by omega)) (Below.refl _ _) (Nat.le_refl _) ?_; intro v103 w6 ho7 hb hg_ hnew_; clear hg_ hnew_; (first | rw [← Ny102.out] at ho7 | (simp only [Int.reduceToNat] at ho7; rw [← Ny102.out] at ho7)); have n0_ := Aside0.mk (Kd.R_lower ho7 (below_size (by repeat (first | (with_reducible first | exact HB.out | apply below_alloc | apply pw_below_drewN | apply below_drew1) | exact HB.out)))); have n1_ := Aside0.mk (below_step (by repeat (first | (with_reducible first | exact HB.out | apply below_alloc | apply pw_below_drewN | apply below_drew1) | exact HB.out)) hb); clear HB; have HO104 := n0_; have HB := n1_; clear n0_ n1_; clear hb ho7))
      go_loopg [7] k (fun kq v7 w' => ∃ (x6_1 : List Int) (x7_1 : Int), v7 = .int .i64 x7_1 ∧ Aside0 (toy_Sum.l0 kq a0 a1 t101 x6_1 x7_1 = some r) ∧ Aside0 (kq ≤ k) ∧ Aside0 (Kd.R (Kd.int .u8) 5 w' w.heap.size (fun _ => True) v103 x6_1) ∧ Aside0 (Below w.heap.size w w'))
      case atStart => exact ⟨(y102), (0), (by first | rfl | (simp; done) | (simp [*]; done)), H', ⟨Nat.le_refl _⟩, ⟨by (with_reducible repeat (first | apply Kd.R_alloc | apply Kd.R_drewN | apply Kd.R_drew)); exact HO104.out⟩, ⟨by repeat (first | (with_reducible first | exact HB.out | apply below_alloc | apply pw_below_drewN | apply below_drew1) | exact HB.out)⟩⟩
      case round =>
        clear H'
        try clear c2
        try clear p2
        try clear c4
        try clear c4b0
        try clear c4b1
        try clear c5
        try clear c5b0
        try clear c5b1
        obtain ⟨x6_1, x7_1, rfl, HA, HK1, HO_6, HB⟩ := hrel
        cases gk with
        | zero => exact absurd HA.out (by simp [toy_Sum.l0])
        | succ k1 =>
          have H := HA.out
          clear HA
          simp only [toy_Sum.l0] at H
          by_cases c8 : x7_1 < t101
          · rw [if_pos c8] at H
            have c8b0 : decide (x7_1 < t101) = true := decide_eq_true c8
            clear c8
            by_cases c9 : 0 ≤ x7_1
            · rw [if_pos c9] at H
              have c9b0 : decide (0 ≤ x7_1) = true := decide_eq_true c9
              clear c9
              by_cases c10 : x7_1 < (x6_1.length : Int)
              · rw [if_pos c10] at H
                have c10b0 : decide (x7_1 < (x6_1.length : Int)) = true := decide_eq_true c10
                clear c10
                obtain ⟨y105, hy105⟩ : ∃ y_ : List Int, y_ = (x6_1.set (x7_1 : Int).toNat ((wrap64 ((wrap64 ((wrap64 (7 * x7_1)) + a0)) + (a1.size : Int))) % 256)) := ⟨_, rfl⟩
                replace H : (toy_Sum.l0 k1 a0 a1 t101 y105 (wrap64 (x7_1 + 1))) = some r := by first | (rw [hy105]; with_reducible exact H) | (have H2_ := (Option.bind_some _ _).symm.trans H; rw [hy105]; with_reducible exact H2_) | (have H2_ := (Option.bind_some _ _).symm.trans H; with_reducible exact H2_) | with_reducible exact H | (rw [hy105]; exact H) | exact H
                have Ny105 := Aside0.mk hy105
                clear hy105
                have H' := Aside0.mk H
                clear H
                have p11 : 0 ≤ (x7_1 : Int) := of_decide_eq_true (by first | (with_reducible assumption) | assumption)
                have q11 : (x7_1 : Int) < ((x6_1.length : Int) : Int) := of_decide_eq_true (by first | (with_reducible assumption) | assumption)
                obtain ⟨go11, co11, eo11, gb11, gl11, cl11, HG11⟩ := Kd.R_form HO_6.out (by omega)
                (first | cases eo11 | (injection eo11 with ea_ en_ ec_; (first | subst ea_ | (injection ea_ with ea_; subst ea_)); subst ec_; clear en_))
                have GB11 := Aside0.mk gb11
                have GG11 := Aside0.mk HG11
                clear gb11 gl11 HG11
                obtain ⟨hx11_0, hf11_0⟩ := Kd.R_celln 0 HO_6.out (x7_1 : Int) p11 q11
                replace p11 := eq_true p11
                replace q11 := eq_true q11
                have HP12 := Kd.R_putg HO_6.out (x7_1 : Int) ((wrap64 ((wrap64 ((wrap64 (7 * x7_1)) + a0)) + (a1.size : Int))) % 256)
                go_wp2_with (first | ((with_reducible refine gate_store (t := 5) (p := 31) rfl ?_); refine store_event (t := 5) (p := 31) (v := ?vo_w13) (w1 := (wr.setCell ⟨go11, (x7_1 : Int).toNat, none⟩ (.int .u8 ((wrap64 ((wrap64 ((wrap64 (7 * x7_1)) + a0)) + (a1.size : Int))) % 256)))) ?hg ?ho ?hn ?hr ?_; (case ho => rfl); (case hg => rfl); (case hn => rfl); (case hr => first | (go_simp; done) | (go_simp; rfl)); intro w13 hw; have hg : wr.grownBy w13 (some go11) := (by rw [hw]; exact HP12.2); have hp_ : Kd.R (Kd.int .u8) 5 w13 w.heap.size (fun _ => True) (.slice (some ⟨go11, 0, none⟩) x6_1.length co11) y105 := (by rw [hw, Ny105.out]; exact HP12.1); clear HP12; have n0_ := Aside0.mk (hp_); have n1_ := Aside0.mk ((by rw [hw]; exact below_set (HB.out) GB11.out : Below w.heap.size w w13)); clear HO_6; clear HB; have HO_6 := n0_; have HB := n1_; clear n0_ n1_; clear hg hw hp_))
                go_roundg k1
                case measure => have := HK1.out; omega
                case rel => exact ⟨(y105), (wrap64 (x7_1 + 1)), (by first | rfl | (simp; done) | (simp [*]; done)), H', ⟨by have := HK1.out; omega⟩, ⟨by (with_reducible repeat (first | apply Kd.R_alloc | apply Kd.R_drewN | apply Kd.R_drew)); exact HO_6.out⟩, ⟨by repeat (first | (with_reducible first | exact HB.out | apply below_alloc | apply pw_below_drewN | apply below_drew1) | exact HB.out)⟩⟩
              · rw [if_neg c10] at H
                exact absurd H (by simp)
            · rw [if_neg c9] at H
              exact absurd H (by simp)
          · rw [if_neg c8] at H
            have c8b0 : decide (x7_1 < t101) = false := decide_eq_false c8
            clear c8
            have H' := Aside0.mk H
            clear H
            go_wp2
            go_loopg [8] k1 (fun kq v8 w' => ∃ (x6_2 : List Int) (x8_2 : Int), v8 = .int .i64 x8_2 ∧ Aside0 (toy_Sum.l1 kq a1 t101 x6_2 x8_2 = some r) ∧ Aside0 (kq ≤ k1) ∧ Aside0 (Kd.R (Kd.int .u8) 5 w' w.heap.size (fun _ => True) v103 x6_2) ∧ Aside0 (Below w.heap.size w w'))
            case atStart => exact ⟨(x6_1), (0), (by first | rfl | (simp; done) | (simp [*]; done)), H', ⟨Nat.le_refl _⟩, ⟨by (with_reducible repeat (first | apply Kd.R_alloc | apply Kd.R_drewN | apply Kd.R_drew)); exact HO_6.out⟩, ⟨by repeat (first | (with_reducible first | exact HB.out | apply below_alloc | apply pw_below_drewN | apply below_drew1) | exact HB.out)⟩⟩
            case round =>
              clear H'
              try clear c1
              try clear p1
              try clear q1
              try clear hx1
              try clear c2
              try clear p2
              try clear c4
              try clear c4b0
              try clear c4b1
              try clear c5
              try clear c5b0
              try clear c5b1
              try clear p6
              try clear c8
              try clear c8b0
              try clear c9
              try clear c9b0
              try clear c10
              try clear c10b0
              try clear p11
              try clear q11
              try clear hx11
              try clear hf11
              try clear hx11_0
              try clear p11
              try clear p2
              try clear q11
              obtain ⟨x6_2, x8_2, rfl, HA, HK2, HO_6, HB⟩ := hrel
              cases gk with
              | zero => exact absurd HA.out (by simp [toy_Sum.l1])
              | succ k2 =>
                have H := HA.out
                clear HA
                simp only [toy_Sum.l1] at H
                by_cases c14 : x8_2 < (a1.size : Int)
                · rw [if_pos c14] at H
                  have c14b0 : decide (x8_2 < (a1.size : Int)) = true := decide_eq_true c14
                  clear c14
                  by_cases c15 : t101 = 0
                  · rw [if_pos c15] at H
                    exact absurd H (by simp)
                  · rw [if_neg c15] at H
                    have c15b0 : (t101 == 0) = false := beq_eq_false_iff_ne.mpr c15
                    have c15b1 : (t101 != 0) = true := bne_iff_ne.mpr c15
                    obtain ⟨ji16, hji16⟩ : ∃ j_ : Int, (Int.tmod x8_2 t101) = j_ := ⟨_, rfl⟩
                    replace H : (if 0 ≤ (ji16) then (if (ji16) < (x6_2.length : Int) then (if 0 ≤ x8_2 then (if 0 ≤ (Int.tmod (wrap64 ((ji16) + 1)) t101) then (if (Int.tmod (wrap64 ((ji16) + 1)) t101) < (x6_2.length : Int) then (toy_Sum.l1 k2 a1 t101 (x6_2.set ((ji16) : Int).toNat (((Go.bits .xor .u8 (((((rd x6_2 (ji16)) + (bt a1 x8_2)) % 256) * 29) % 256) (rd x6_2 (Int.tmod (wrap64 ((ji16) + 1)) t101))) + ((x8_2) % 256)) % 256)) (wrap64 (x8_2 + 1))) else (none)) else (none)) else (none)) else (none)) else (none)) = some r := by first | (rw [hji16] at H; exact H) | (simp only [hji16] at H ⊢; exact H)
                    by_cases c17 : 0 ≤ (ji16)
                    · rw [if_pos c17] at H
                      have c17b0 : decide (0 ≤ (ji16)) = true := decide_eq_true c17
                      clear c17
                      by_cases c18 : (ji16) < (x6_2.length : Int)
                      · rw [if_pos c18] at H
                        have c18b0 : decide ((ji16) < (x6_2.length : Int)) = true := decide_eq_true c18
                        clear c18
                        by_cases c19 : 0 ≤ x8_2
                        · rw [if_pos c19] at H
                          have c19b0 : decide (0 ≤ x8_2) = true := decide_eq_true c19
                          clear c19
                          obtain ⟨ji21, hji21⟩ : ∃ j_ : Int, (Int.tmod (wrap64 ((ji16) + 1)) t101) = j_ := ⟨_, rfl⟩
                          replace H : (if 0 ≤ (ji21) then (if (ji21) < (x6_2.length : Int) then (toy_Sum.l1 k2 a1 t101 (x6_2.set ((ji16) : Int).toNat (((Go.bits .xor .u8 (((((rd x6_2 (ji16)) + (bt a1 x8_2)) % 256) * 29) % 256) (rd x6_2 (ji21))) + ((x8_2) % 256)) % 256)) (wrap64 (x8_2 + 1))) else (none)) else (none)) = some r := by first | (rw [hji21] at H; exact H) | (simp only [hji21] at H ⊢; exact H)
                          by_cases c22 : 0 ≤ (ji21)
                          · rw [if_pos c22] at H
                            have c22b0 : decide (0 ≤ (ji21)) = true := decide_eq_true c22
                            clear c22
                            by_cases c23 : (ji21) < (x6_2.length : Int)
                            · rw [if_pos c23] at H
                              have c23b0 : decide ((ji21) < (x6_2.length : Int)) = true := decide_eq_true c23
                              clear c23
                              obtain ⟨y108, hy108⟩ : ∃ y_ : List Int, y_ = (x6_2.set ((ji16) : Int).toNat (((Go.bits .xor .u8 (((((rd x6_2 (ji16)) + (bt a1 x8_2)) % 256) * 29) % 256) (rd x6_2 (ji21))) + ((x8_2) % 256)) % 256)) := ⟨_, rfl⟩
                              replace H : (toy_Sum.l1 k2 a1 t101 y108 (wrap64 (x8_2 + 1))) = some r := by first | (rw [hy108]; with_reducible exact H) | (have H2_ := (Option.bind_some _ _).symm.trans H; rw [hy108]; with_reducible exact H2_) | (have H2_ := (Option.bind_some _ _).symm.trans H; with_reducible exact H2_) | with_reducible exact H | (rw [hy108]; exact H) | exact H
                              have Ny108 := Aside0.mk hy108
                              clear hy108
                              have H' := Aside0.mk H
                              clear H
                              try go_wp2
                              have n0_ := Aside0.mk (Kd.R_drew HO_6.out)
                              have n1_ := Aside0.mk (below_drew1 HB.out)
                              clear HO_6
                              clear HB
                              have HO_6 := n0_
                              have HB := n1_
                              clear n0_ n1_
                              obtain ⟨Ao26, co26, eo26⟩ := Kd.R_slice HO_6.out
                              (first | subst eo26 | (injection eo26 with f1_ f2_ f3_; have f4_ := f1_.symm; have f5_ := f3_.symm; clear f1_ f2_ f3_; subst f4_; subst f5_))
                              have p106 : 0 ≤ ((ji16) : Int) := of_decide_eq_true (by first | (with_reducible assumption) | assumption)
                              have q106 : (ji16) < (x6_2.length : Int) := of_decide_eq_true (by first | (with_reducible assumption) | assumption)
                              obtain ⟨ad106, e106, hx106_0⟩ := Kd.at_int (Kd.R_reads' HO_6.out).2.2 (ji16) p106 q106
                              cases e106
                              replace p106 := eq_true p106
                              replace q106 := eq_true q106
                              have p20 : 0 ≤ (x8_2 : Int) := of_decide_eq_true (by first | (with_reducible assumption) | assumption)
                              have q20 : x8_2 < (a1.size : Int) := of_decide_eq_true (by first | (with_reducible assumption) | assumption)
                              have hx20 := bt_at a1 x8_2
                              replace p20 := eq_true p20
                              replace q20 := eq_true q20
                              have p107 : 0 ≤ ((ji21) : Int) := of_decide_eq_true (by first | (with_reducible assumption) | assumption)
                              have q107 : (ji21) < (x6_2.length : Int) := of_decide_eq_true (by first | (with_reducible assumption) | assumption)
                              obtain ⟨ad107, e107, hx107_0⟩ := Kd.at_int (Kd.R_reads' HO_6.out).2.2 (ji21) p107 q107
                              obtain rfl : ad106 = ad107 := (by injection e107)
                              replace p107 := eq_true p107
                              replace q107 := eq_true q107
                              have p24 : 0 ≤ ((ji16) : Int) := of_decide_eq_true (by first | (with_reducible assumption) | assumption)
                              have q24 : ((ji16) : Int) < ((x6_2.length : Int) : Int) := of_decide_eq_true (by first | (with_reducible assumption) | assumption)
                              obtain ⟨go24, co24, eo24, gb24, gl24, cl24, HG24⟩ := Kd.R_form HO_6.out (by omega)
                              (first | cases eo24 | (injection eo24 with ea_ en_ ec_; (first | subst ea_ | (injection ea_ with ea_; subst ea_)); subst ec_; clear en_))
                              have GB24 := Aside0.mk gb24
                              have GG24 := Aside0.mk HG24
                              clear gb24 gl24 HG24
                              (first | simp only [add_plain] at hx106_0 | skip)
                              (first | simp only [add_plain] at hx107_0 | skip)
                              obtain ⟨hx24_0, hf24_0⟩ := Kd.R_celln 0 HO_6.out ((ji16) : Int) p24 q24
                              replace p24 := eq_true p24
                              replace q24 := eq_true q24
                              have HP27 := Kd.R_putn HO_6.out ((ji16) : Int) (((Go.bits .xor .u8 (((((rd x6_2 (ji16)) + (bt a1 x8_2)) % 256) * 29) % 256) (rd x6_2 (ji21))) + ((x8_2) % 256)) % 256)
                              rw [← Ny108.out] at HP27
                              have HQ27 := Aside0.mk HP27
                              clear HP27
                              refine start_ (n := 24) (S := fun w' => w'.cell? ⟨go24, ((ji16)).toNat, none⟩ = some (.int .u8 (rd x6_2 (ji16))) ∧ w'.cell? ⟨go24, ((ji21)).toNat, none⟩ = some (.int .u8 (rd x6_2 (ji21)))) (ds := [23]) #[false, false, false, false, false, false, false, false, false, false, false, false, false, false, false, false, false, false, false, false, false, false, false, false] (by kernel_rfl) rfl rfl ⟨hx106_0, hx107_0⟩ (fun hHeld => ?_); refine with_tabW toy_Sum.tab11 toy_Sum.bits11 (fun HT_ HW_ => ?_)
                              generalize wr.drew = w25 at HO_6 HB GG24 HQ27 hf24_0 hx106_0 hx107_0 hx24_0 hHeld ⊢
                              refine pure_ (i := 0) (N := some 41) (v := ?_) (a' := ?_) #[true, false, false, false, false, false, false, false, false, false, false, false, false, false, false, false, false, false, false, false, false, false, false, false] rfl rfl (any_of HT_.out (by kernel_rfl)) (fun _ _ _ h => h) (Or.inl ⟨by rfl, ?_⟩) ?_ ?_
                              rotate_left
                              · intro w'
                                go_simp
                                with_reducible rfl
                              rotate_left
                              · simp only [Act.put, List.setIfInBounds_toArray, List.set_cons_zero, List.set_cons_succ, i64_w, i32_w]
                                rfl
                              refine pure_ (i := 1) (N := some 42) (v := ?_) (a' := ?_) #[true, true, false, false, false, false, false, false, false, false, false, false, false, false, false, false, false, false, false, false, false, false, false, false] rfl rfl (any_of HT_.out (by kernel_rfl)) (fun _ _ _ h => h) (Or.inl ⟨by rfl, ?_⟩) ?_ ?_
                              rotate_left
                              · intro w'
                                go_simp
                                with_reducible rfl
                              rotate_left
                              · simp only [Act.put, List.setIfInBounds_toArray, List.set_cons_zero, List.set_cons_succ, i64_w, i32_w]
                                rfl
                              refine pure_ (i := 2) (N := some 43) (v := ?_) (a' := ?_) #[true, true, true, false, false, false, false, false, false, false, false, false, false, false, false, false, false, false, false, false, false, false, false, false] rfl rfl (any_of HT_.out (by kernel_rfl)) (fun _ _ _ h => h) (Or.inl ⟨by rfl, ?_⟩) ?_ ?_
                              rotate_left
                              · intro w'
                                go_simp
                                with_reducible rfl
                              rotate_left
                              · simp only [Act.put, List.setIfInBounds_toArray, List.set_cons_zero, List.set_cons_succ, i64_w, i32_w]
                                rfl
                              refine pure_ (i := 3) (N := some 44) (v := ?_) (a' := ?_) #[true, true, true, true, false, false, false, false, false, false, false, false, false, false, false, false, false, false, false, false, false, false, false, false] rfl rfl (any_of HT_.out (by kernel_rfl)) (fun _ _ _ h => h) (Or.inl ⟨by rfl, ?_⟩) ?_ ?_
                              rotate_left
                              · intro w'
                                go_simp
                                with_reducible rfl
                              rotate_left
                              · simp only [Act.put, List.setIfInBounds_toArray, List.set_cons_zero, List.set_cons_succ, i64_w, i32_w]
                                rfl
                              refine pure_ (i := 4) (N := some 45) (v := ?_) (a' := ?_) #[true, true, true, true, true, false, false, false, false, false, false, false, false, false, false, false, false, false, false, false, false, false, false, false] rfl rfl (any_of HT_.out (by kernel_rfl)) (fun _ _ _ h => h) (Or.inl ⟨by rfl, ?_⟩) ?_ ?_
                              rotate_left
                              · intro w'
                                go_simp
                                with_reducible rfl
                              rotate_left
                              · simp only [Act.put, List.setIfInBounds_toArray, List.set_cons_zero, List.set_cons_succ, i64_w, i32_w]
                                rfl
                              refine pure_ (i := 6) (N := some 47) (v := ?_) (a' := ?_) #[true, true, true, true, true, false, true, false, false, false, false, false, false, false, false, false, false, false, false, false, false, false, false, false] rfl rfl (any_of HT_.out (by kernel_rfl)) (fun _ _ _ h => h) (Or.inl ⟨by rfl, ?_⟩) ?_ ?_
                              rotate_left
                              · intro w'
                                go_simp
                                with_reducible rfl
                              rotate_left
                              · simp only [Act.put, List.setIfInBounds_toArray, List.set_cons_zero, List.set_cons_succ, i64_w, i32_w]
                                rfl
                              refine pure_ (i := 7) (N := some 48) (v := ?_) (a' := ?_) #[true, true, true, true, true, false, true, true, false, false, false, false, false, false, false, false, false, false, false, false, false, false, false, false] rfl rfl (any_of HT_.out (by kernel_rfl)) (fun _ _ _ h => h) (Or.inl ⟨by rfl, ?_⟩) ?_ ?_
                              rotate_left
                              · intro w'
                                go_simp
                                with_reducible rfl
                              rotate_left
                              · simp only [Act.put, List.setIfInBounds_toArray, List.set_cons_zero, List.set_cons_succ, i64_w, i32_w]
                                rfl
                              refine pure_ (i := 11) (N := some 52) (v := ?_) (a' := ?_) #[true, true, true, true, true, false, true, true, false, false, false, true, false, false, false, false, false, false, false, false, false, false, false, false] rfl rfl (any_of HT_.out (by kernel_rfl)) (fun _ _ _ h => h) (Or.inl ⟨by rfl, ?_⟩) ?_ ?_
                              rotate_left
                              · intro w'
                                go_simp
                                with_reducible rfl
                              rotate_left
                              · simp only [Act.put, List.setIfInBounds_toArray, List.set_cons_zero, List.set_cons_succ, i64_w, i32_w]
                                rfl
                              refine pure_ (i := 12) (N := some 53) (v := ?_) (a' := ?_) #[true, true, true, true, true, false, true, true, false, false, false, true, true, false, false, false, false, false, false, false, false, false, false, false] rfl rfl (any_of HT_.out (by kernel_rfl)) (fun _ _ _ h => h) (Or.inl ⟨by rfl, ?_⟩) ?_ ?_
                              rotate_left
                              · intro w'
                                go_simp
                                with_reducible rfl
                              rotate_left
                              · simp only [Act.put, List.setIfInBounds_toArray, List.set_cons_zero, List.set_cons_succ, i64_w, i32_w]
                                rfl
                              refine pure_ (i := 13) (N := some 54) (v := ?_) (a' := ?_) #[true, true, true, true, true, false, true, true, false, false, false, true, true, true, false, false, false, false, false, false, false, false, false, false] rfl rfl (any_of HT_.out (by kernel_rfl)) (fun _ _ _ h => h) (Or.inl ⟨by rfl, ?_⟩) ?_ ?_
                              rotate_left
                              · intro w'
                                go_simp
                                with_reducible rfl
                              rotate_left
                              · simp only [Act.put, List.setIfInBounds_toArray, List.set_cons_zero, List.set_cons_succ, i64_w, i32_w]
                                rfl
                              refine pure_ (i := 14) (N := some 55) (v := ?_) (a' := ?_) #[true, true, true, true, true, false, true, true, false, false, false, true, true, true, true, false, false, false, false, false, false, false, false, false] rfl rfl (any_of HT_.out (by kernel_rfl)) (fun _ _ _ h => h) (Or.inl ⟨by rfl, ?_⟩) ?_ ?_
                              rotate_left
                              · intro w'
                                go_simp
                                with_reducible rfl
                              rotate_left
                              · simp only [Act.put, List.setIfInBounds_toArray, List.set_cons_zero, List.set_cons_succ, i64_w, i32_w]
                                rfl
                              refine pure_ (i := 15) (N := some 56) (v := ?_) (a' := ?_) #[true, true, true, true, true, false, true, true, false, false, false, true, true, true, true, true, false, false, false, false, false, false, false, false] rfl rfl (any_of HT_.out (by kernel_rfl)) (fun _ _ _ h => h) (Or.inl ⟨by rfl, ?_⟩) ?_ ?_
                              rotate_left
                              · intro w'
                                go_simp
                                with_reducible rfl
                              rotate_left
                              · simp only [Act.put, List.setIfInBounds_toArray, List.set_cons_zero, List.set_cons_succ, i64_w, i32_w]
                                rfl
                              refine pure_ (i := 16) (N := some 57) (v := ?_) (a' := ?_) #[true, true, true, true, true, false, true, true, false, false, false, true, true, true, true, true, true, false, false, false, false, false, false, false] rfl rfl (any_of HT_.out (by kernel_rfl)) (fun _ _ _ h => h) (Or.inl ⟨by rfl, ?_⟩) ?_ ?_
                              rotate_left
                              · intro w'
                                go_simp
                                with_reducible rfl
                              rotate_left
                              · simp only [Act.put, List.setIfInBounds_toArray, List.set_cons_zero, List.set_cons_succ, i64_w, i32_w]
                                rfl
                              refine pure_ (i := 19) (N := some 60) (v := ?_) (a' := ?_) #[true, true, true, true, true, false, true, true, false, false, false, true, true, true, true, true, true, false, false, true, false, false, false, false] rfl rfl (any_of HT_.out (by kernel_rfl)) (fun _ _ _ h => h) (Or.inl ⟨by rfl, ?_⟩) ?_ ?_
                              rotate_left
                              · intro w'
                                go_simp
                                with_reducible rfl
                              rotate_left
                              · simp only [Act.put, List.setIfInBounds_toArray, List.set_cons_zero, List.set_cons_succ, i64_w, i32_w]
                                rfl
                              refine pure_ (i := 20) (N := some 61) (v := ?_) (a' := ?_) #[true, true, true, true, true, false, true, true, false, false, false, true, true, true, true, true, true, false, false, true, true, false, false, false] rfl rfl (any_of HT_.out (by kernel_rfl)) (fun _ _ _ h => h) (Or.inl ⟨by rfl, ?_⟩) ?_ ?_
                              rotate_left
                              · intro w'
                                go_simp
                                with_reducible rfl
                              rotate_left
                              · simp only [Act.put, List.setIfInBounds_toArray, List.set_cons_zero, List.set_cons_succ, i64_w, i32_w]
                                rfl
                              refine take_ (i := 5) (N := some 46) (v := ?_) (a' := ?_) #[true, true, true, true, true, true, true, true, false, false, false, true, true, true, true, true, true, false, false, true, true, false, false, false] rfl rfl (take_ofW HT_.out HW_.out (by kernel_rfl)) (fun _ _ _ h => h) (Or.inl ⟨by rfl, ?_⟩) hHeld ?_ ?_
                              rotate_left
                              · rintro w' ⟨s0, s1⟩
                                go_simp
                                with_reducible rfl
                              rotate_left
                              · simp only [Act.put, List.setIfInBounds_toArray, List.set_cons_zero, List.set_cons_succ, i64_w, i32_w]
                                rfl
                              refine take_ (i := 8) (N := some 49) (v := ?_) (a' := ?_) #[true, true, true, true, true, true, true, true, true, false, false, true, true, true, true, true, true, false, false, true, true, false, false, false] rfl rfl (take_ofW HT_.out HW_.out (by kernel_rfl)) (fun _ _ _ h => h) (Or.inl ⟨by rfl, ?_⟩) hHeld ?_ ?_
                              rotate_left
                              · rintro w' ⟨s0, s1⟩
                                go_simp
                                with_reducible rfl
                              rotate_left
                              · simp only [Act.put, List.setIfInBounds_toArray, List.set_cons_zero, List.set_cons_succ, i64_w, i32_w]
                                rfl
                              refine pure_ (i := 9) (N := some 50) (v := ?_) (a' := ?_) #[true, true, true, true, true, true, true, true, true, true, false, true, true, true, true, true, true, false, false, true, true, false, false, false] rfl rfl (any_of HT_.out (by kernel_rfl)) (fun _ _ _ h => h) (Or.inl ⟨by rfl, ?_⟩) ?_ ?_
                              rotate_left
                              · intro w'
                                go_simp
                                with_reducible rfl
                              rotate_left
                              · simp only [Act.put, List.setIfInBounds_toArray, List.set_cons_zero, List.set_cons_succ, i64_w, i32_w]
                                rfl
                              refine pure_ (i := 10) (N := some 51) (v := ?_) (a' := ?_) #[true, true, true, true, true, true, true, true, true, true, true, true, true, true, true, true, true, false, false, true, true, false, false, false] rfl rfl (any_of HT_.out (by kernel_rfl)) (fun _ _ _ h => h) (Or.inl ⟨by rfl, ?_⟩) ?_ ?_
                              rotate_left
                              · intro w'
                                go_simp
                                with_reducible rfl
                              rotate_left
                              · simp only [Act.put, List.setIfInBounds_toArray, List.set_cons_zero, List.set_cons_succ, i64_w, i32_w]
                                rfl
                              refine take_ (i := 17) (N := some 58) (v := ?_) (a' := ?_) #[true, true, true, true, true, true, true, true, true, true, true, true, true, true, true, true, true, true, false, true, true, false, false, false] rfl rfl (take_ofW HT_.out HW_.out (by kernel_rfl)) (fun _ _ _ h => h) (Or.inl ⟨by rfl, ?_⟩) hHeld ?_ ?_
                              rotate_left
                              · rintro w' ⟨s0, s1⟩
                                go_simp
                                with_reducible rfl
                              rotate_left
                              · simp only [Act.put, List.setIfInBounds_toArray, List.set_cons_zero, List.set_cons_succ, i64_w, i32_w]
                                rfl
                              refine pure_ (i := 18) (N := some 59) (v := ?_) (a' := ?_) #[true, true, true, true, true, true, true, true, true, true, true, true, true, true, true, true, true, true, true, true, true, false, false, false] rfl rfl (any_of HT_.out (by kernel_rfl)) (fun _ _ _ h => h) (Or.inl ⟨by rfl, ?_⟩) ?_ ?_
                              rotate_left
                              · intro w'
                                go_simp
                                with_reducible rfl
                              rotate_left
                              · simp only [Act.put, List.setIfInBounds_toArray, List.set_cons_zero, List.set_cons_succ, i64_w, i32_w]
                                rfl
                              refine pure_ (i := 21) (N := some 62) (v := ?_) (a' := ?_) #[true, true, true, true, true, true, true, true, true, true, true, true, true, true, true, true, true, true, true, true, true, true, false, false] rfl rfl (any_of HT_.out (by kernel_rfl)) (fun _ _ _ h => h) (Or.inl ⟨by rfl, ?_⟩) ?_ ?_
                              rotate_left
                              · intro w'
                                go_simp
                                with_reducible rfl
                              rotate_left
                              · simp only [Act.put, List.setIfInBounds_toArray, List.set_cons_zero, List.set_cons_succ, i64_w, i32_w]
                                rfl
                              refine pure_ (i := 22) (N := some 63) (v := ?_) (a' := ?_) #[true, true, true, true, true, true, true, true, true, true, true, true, true, true, true, true, true, true, true, true, true, true, true, false] rfl rfl (any_of HT_.out (by kernel_rfl)) (fun _ _ _ h => h) (Or.inl ⟨by rfl, ?_⟩) ?_ ?_
                              rotate_left
                              · intro w'
                                go_simp
                                with_reducible rfl
                              rotate_left
                              · simp only [Act.put, List.setIfInBounds_toArray, List.set_cons_zero, List.set_cons_succ, i64_w, i32_w]
                                rfl
                              refine last_ (i := 23) (N := none) #[true, true, true, true, true, true, true, true, true, true, true, true, true, true, true, true, true, true, true, true, true, true, true, true] rfl rfl (one_of HT_.out (by kernel_rfl)) (by decide) (fun K hK => ?_)
                              refine skip_ (w1 := ?_) (by rfl) rfl ?_ ?_
                              rotate_left
                              · go_simp
                                rfl
                              refine hK.out _ _ ?_
                              clear hK K
                              refine done_ (done_of HT_.out (by kernel_rfl)) ?_
                              try go_wp2
                              go_roundg k2
                              case measure => have := HK1.out; have := HK2.out; omega
                              case rel => exact ⟨(y108), (wrap64 (x8_2 + 1)), (by first | rfl | (simp; done) | (simp [*]; done)), H', ⟨by have := HK1.out; have := HK2.out; omega⟩, ⟨by (with_reducible repeat (first | apply Kd.R_alloc | apply Kd.R_drewN | apply Kd.R_drew)); (first | exact HQ27.out | (have q_ := HQ27.out; simp at q_; exact q_))⟩, ⟨by repeat (first | (with_reducible first | exact HB.out | apply below_alloc | apply pw_below_drewN | apply below_drew1 | refine below_set ?_ GB24.out) | exact HB.out)⟩⟩
                            · rw [if_neg c23] at H
                              exact absurd H (by simp)
                          · rw [if_neg c22] at H
                            exact absurd H (by simp)
                        · rw [if_neg c19] at H
                          exact absurd H (by simp)
                      · rw [if_neg c18] at H
                        exact absurd H (by simp)
                    · rw [if_neg c17] at H
                      exact absurd H (by simp)
                · rw [if_neg c14] at H
                  have c14b0 : decide (x8_2 < (a1.size : Int)) = false := decide_eq_false c14
                  clear c14
                  have H' := Aside0.mk H
                  clear H
                  go_wp2
                  go_loopg [10] k2 (fun kq v10 w' => ∃ (x6_3 : List Int) (x10_3 : Int), v10 = .int .i64 x10_3 ∧ Aside0 (toy_Sum.l2 kq t101 x6_3 x10_3 = some r) ∧ Aside0 (kq ≤ k2) ∧ Aside0 (Kd.R (Kd.int .u8) 5 w' w.heap.size (fun _ => True) v103 x6_3) ∧ Aside0 (Below w.heap.size w w'))
                  case atStart => exact ⟨(x6_2), (0), (by first | rfl | (simp; done) | (simp [*]; done)), H', ⟨Nat.le_refl _⟩, ⟨by (with_reducible repeat (first | apply Kd.R_alloc | apply Kd.R_drewN | apply Kd.R_drew)); exact HO_6.out⟩, ⟨by repeat (first | (with_reducible first | exact HB.out | apply below_alloc | apply pw_below_drewN | apply below_drew1) | exact HB.out)⟩⟩
                  case round =>
                    clear H'
                    try clear c1
                    try clear p1
                    try clear q1
                    try clear hx1
                    try clear c2
                    try clear p2
                    try clear q2
                    try clear hx2
                    try clear hf2
                    try clear c4
                    try clear c4b0
                    try clear c4b1
                    try clear c5
                    try clear c5b0
                    try clear c5b1
                    try clear p6
                    try clear c8
                    try clear c8b0
                    try clear c9
                    try clear c9b0
                    try clear c10
                    try clear c10b0
                    try clear p10
                    try clear q10
                    try clear hx10
                    try clear p11
                    try clear q11
                    try clear hx11
                    try clear hf11
                    try clear c14
                    try clear c14b0
                    try clear c15
                    try clear c15b0
                    try clear c15b1
                    try clear c17
                    try clear c17b0
                    try clear c18
                    try clear c18b0
                    try clear c19
                    try clear c19b0
                    try clear p20
                    try clear q20
                    try clear hx20
                    try clear c22
                    try clear c22b0
                    try clear c23
                    try clear c23b0
                    try clear p24
                    try clear q24
                    try clear hx24
                    try clear hf24
                    try clear hx106_0
                    try clear hx107_0
                    try clear hx11_0
                    try clear hx24_0
                    try clear p1
                    try clear p106
                    try clear p107
                    try clear p11
                    try clear p2
                    try clear p20
                    try clear p24
                    try clear p6
                    try clear q1
                    try clear q106
                    try clear q107
                    try clear q11
                    try clear q20
                    try clear q24
                    obtain ⟨x6_3, x10_3, rfl, HA, HK3, HO_6, HB⟩ := hrel
                    cases gk with
                    | zero => exact absurd HA.out (by simp [toy_Sum.l2])
                    | succ k3 =>
                      have H := HA.out
                      clear HA
                      simp only [toy_Sum.l2] at H
                      by_cases c28 : x10_3 < (wrap64 (2 * t101))
                      · rw [if_pos c28] at H
                        have c28b0 : decide (x10_3 < (wrap64 (2 * t101))) = true := decide_eq_true c28
                        clear c28
                        by_cases c29 : t101 = 0
                        · rw [if_pos c29] at H
                          exact absurd H (by simp)
                        · rw [if_neg c29] at H
                          have c29b0 : (t101 == 0) = false := beq_eq_false_iff_ne.mpr c29
                          have c29b1 : (t101 != 0) = true := bne_iff_ne.mpr c29
                          obtain ⟨ji30, hji30⟩ : ∃ j_ : Int, (Int.tmod x10_3 t101) = j_ := ⟨_, rfl⟩
                          replace H : (if 0 ≤ (ji30) then (if (ji30) < (x6_3.length : Int) then (if 0 ≤ (Int.tmod (wrap64 ((wrap64 ((ji30) + t101)) - 1)) t101) then (if (Int.tmod (wrap64 ((wrap64 ((ji30) + t101)) - 1)) t101) < (x6_3.length : Int) then (toy_Sum.l2 k3 t101 (x6_3.set ((ji30) : Int).toNat (((((((rd x6_3 (ji30)) * 13) % 256) + (rd x6_3 (Int.tmod (wrap64 ((wrap64 ((ji30) + t101)) - 1)) t101))) % 256) + ((x10_3) % 256)) % 256)) (wrap64 (x10_3 + 1))) else (none)) else (none)) else (none)) else (none)) = some r := by first | (rw [hji30] at H; exact H) | (simp only [hji30] at H ⊢; exact H)
                          by_cases c31 : 0 ≤ (ji30)
                          · rw [if_pos c31] at H
                            have c31b0 : decide (0 ≤ (ji30)) = true := decide_eq_true c31
                            clear c31
                            by_cases c32 : (ji30) < (x6_3.length : Int)
                            · rw [if_pos c32] at H
                              have c32b0 : decide ((ji30) < (x6_3.length : Int)) = true := decide_eq_true c32
                              clear c32
                              obtain ⟨ji33, hji33⟩ : ∃ j_ : Int, (Int.tmod (wrap64 ((wrap64 ((ji30) + t101)) - 1)) t101) = j_ := ⟨_, rfl⟩
                              replace H : (if 0 ≤ (ji33) then (if (ji33) < (x6_3.length : Int) then (toy_Sum.l2 k3 t101 (x6_3.set ((ji30) : Int).toNat (((((((rd x6_3 (ji30)) * 13) % 256) + (rd x6_3 (ji33))) % 256) + ((x10_3) % 256)) % 256)) (wrap64 (x10_3 + 1))) else (none)) else (none)) = some r := by first | (rw [hji33] at H; exact H) | (simp only [hji33] at H ⊢; exact H)
                              by_cases c34 : 0 ≤ (ji33)
                              · rw [if_pos c34] at H
                                have c34b0 : decide (0 ≤ (ji33)) = true := decide_eq_true c34
                                clear c34
                                by_cases c35 : (ji33) < (x6_3.length : Int)
                                · rw [if_pos c35] at H
                                  have c35b0 : decide ((ji33) < (x6_3.length : Int)) = true := decide_eq_true c35
                                  clear c35
                                  obtain ⟨y111, hy111⟩ : ∃ y_ : List Int, y_ = (x6_3.set ((ji30) : Int).toNat (((((((rd x6_3 (ji30)) * 13) % 256) + (rd x6_3 (ji33))) % 256) + ((x10_3) % 256)) % 256)) := ⟨_, rfl⟩
                                  replace H : (toy_Sum.l2 k3 t101 y111 (wrap64 (x10_3 + 1))) = some r := by first | (rw [hy111]; with_reducible exact H) | (have H2_ := (Option.bind_some _ _).symm.trans H; rw [hy111]; with_reducible exact H2_) | (have H2_ := (Option.bind_some _ _).symm.trans H; with_reducible exact H2_) | with_reducible exact H | (rw [hy111]; exact H) | exact H
                                  have Ny111 := Aside0.mk hy111
                                  clear hy111
                                  have H' := Aside0.mk H
                                  clear H
                                  try go_wp2
                                  have n0_ := Aside0.mk (Kd.R_drew HO_6.out)
                                  have n1_ := Aside0.mk (below_drew1 HB.out)
                                  clear HO_6
                                  clear HB
                                  have HO_6 := n0_
                                  have HB := n1_
                                  clear n0_ n1_
                                  obtain ⟨Ao38, co38, eo38⟩ := Kd.R_slice HO_6.out
                                  (first | subst eo38 | (injection eo38 with f1_ f2_ f3_; have f4_ := f1_.symm; have f5_ := f3_.symm; clear f1_ f2_ f3_; subst f4_; subst f5_))
                                  have p109 : 0 ≤ ((ji30) : Int) := of_decide_eq_true (by first | (with_reducible assumption) | assumption)
                                  have q109 : (ji30) < (x6_3.length : Int) := of_decide_eq_true (by first | (with_reducible assumption) | assumption)
                                  obtain ⟨ad109, e109, hx109_0⟩ := Kd.at_int (Kd.R_reads' HO_6.out).2.2 (ji30) p109 q109
                                  cases e109
                                  replace p109 := eq_true p109
                                  replace q109 := eq_true q109
                                  have p110 : 0 ≤ ((ji33) : Int) := of_decide_eq_true (by first | (with_reducible assumption) | assumption)
                                  have q110 : (ji33) < (x6_3.length : Int) := of_decide_eq_true (by first | (with_reducible assumption) | assumption)
                                  obtain ⟨ad110, e110, hx110_0⟩ := Kd.at_int (Kd.R_reads' HO_6.out).2.2 (ji33) p110 q110
                                  obtain rfl : ad109 = ad110 := (by injection e110)
                                  replace p110 := eq_true p110
                                  replace q110 := eq_true q110
                                  have p36 : 0 ≤ ((ji30) : Int) := of_decide_eq_true (by first | (with_reducible assumption) | assumption)
                                  have q36 : ((ji30) : Int) < ((x6_3.length : Int) : Int) := of_decide_eq_true (by first | (with_reducible assumption) | assumption)
                                  obtain ⟨go36, co36, eo36, gb36, gl36, cl36, HG36⟩ := Kd.R_form HO_6.out (by omega)
                                  (first | cases eo36 | (injection eo36 with ea_ en_ ec_; (first | subst ea_ | (injection ea_ with ea_; subst ea_)); subst ec_; clear en_))
                                  have GB36 := Aside0.mk gb36
                                  have GG36 := Aside0.mk HG36
                                  clear gb36 gl36 HG36
                                  (first | simp only [add_plain] at hx109_0 | skip)
                                  (first | simp only [add_plain] at hx110_0 | skip)
                                  obtain ⟨hx36_0, hf36_0⟩ := Kd.R_celln 0 HO_6.out ((ji30) : Int) p36 q36
                                  replace p36 := eq_true p36
                                  replace q36 := eq_true q36
                                  have HP39 := Kd.R_putn HO_6.out ((ji30) : Int) (((((((rd x6_3 (ji30)) * 13) % 256) + (rd x6_3 (ji33))) % 256) + ((x10_3) % 256)) % 256)
                                  rw [← Ny111.out] at HP39
                                  have HQ39 := Aside0.mk HP39
                                  clear HP39
                                  refine start_ (n := 22) (S := fun w' => w'.cell? ⟨go36, ((ji30)).toNat, none⟩ = some (.int .u8 (rd x6_3 (ji30))) ∧ w'.cell? ⟨go36, ((ji33)).toNat, none⟩ = some (.int .u8 (rd x6_3 (ji33)))) (ds := [21]) #[false, false, false, false, false, false, false, false, false, false, false, false, false, false, false, false, false, false, false, false, false, false] (by kernel_rfl) rfl rfl ⟨hx109_0, hx110_0⟩ (fun hHeld => ?_); refine with_tabW toy_Sum.tab16 toy_Sum.bits16 (fun HT_ HW_ => ?_)
                                  generalize wr.drew = w37 at HO_6 HB GG36 HQ39 hf36_0 hx109_0 hx110_0 hx36_0 hHeld ⊢
                                  refine pure_ (i := 0) (N := some 73) (v := ?_) (a' := ?_) #[true, false, false, false, false, false, false, false, false, false, false, false, false, false, false, false, false, false, false, false, false, false] rfl rfl (any_of HT_.out (by kernel_rfl)) (fun _ _ _ h => h) (Or.inl ⟨by rfl, ?_⟩) ?_ ?_
                                  rotate_left
                                  · intro w'
                                    go_simp
                                    with_reducible rfl
                                  rotate_left
                                  · simp only [Act.put, List.setIfInBounds_toArray, List.set_cons_zero, List.set_cons_succ, i64_w, i32_w]
                                    rfl
                                  refine pure_ (i := 1) (N := some 74) (v := ?_) (a' := ?_) #[true, true, false, false, false, false, false, false, false, false, false, false, false, false, false, false, false, false, false, false, false, false] rfl rfl (any_of HT_.out (by kernel_rfl)) (fun _ _ _ h => h) (Or.inl ⟨by rfl, ?_⟩) ?_ ?_
                                  rotate_left
                                  · intro w'
                                    go_simp
                                    with_reducible rfl
                                  rotate_left
                                  · simp only [Act.put, List.setIfInBounds_toArray, List.set_cons_zero, List.set_cons_succ, i64_w, i32_w]
                                    rfl
                                  refine pure_ (i := 2) (N := some 75) (v := ?_) (a' := ?_) #[true, true, true, false, false, false, false, false, false, false, false, false, false, false, false, false, false, false, false, false, false, false] rfl rfl (any_of HT_.out (by kernel_rfl)) (fun _ _ _ h => h) (Or.inl ⟨by rfl, ?_⟩) ?_ ?_
                                  rotate_left
                                  · intro w'
                                    go_simp
                                    with_reducible rfl
                                  rotate_left
                                  · simp only [Act.put, List.setIfInBounds_toArray, List.set_cons_zero, List.set_cons_succ, i64_w, i32_w]
                                    rfl
                                  refine pure_ (i := 3) (N := some 76) (v := ?_) (a' := ?_) #[true, true, true, true, false, false, false, false, false, false, false, false, false, false, false, false, false, false, false, false, false, false] rfl rfl (any_of HT_.out (by kernel_rfl)) (fun _ _ _ h => h) (Or.inl ⟨by rfl, ?_⟩) ?_ ?_
                                  rotate_left
                                  · intro w'
                                    go_simp
                                    with_reducible rfl
                                  rotate_left
                                  · simp only [Act.put, List.setIfInBounds_toArray, List.set_cons_zero, List.set_cons_succ, i64_w, i32_w]
                                    rfl
                                  refine pure_ (i := 4) (N := some 77) (v := ?_) (a' := ?_) #[true, true, true, true, true, false, false, false, false, false, false, false, false, false, false, false, false, false, false, false, false, false] rfl rfl (any_of HT_.out (by kernel_rfl)) (fun _ _ _ h => h) (Or.inl ⟨by rfl, ?_⟩) ?_ ?_
                                  rotate_left
                                  · intro w'
                                    go_simp
                                    with_reducible rfl
                                  rotate_left
                                  · simp only [Act.put, List.setIfInBounds_toArray, List.set_cons_zero, List.set_cons_succ, i64_w, i32_w]
                                    rfl
                                  refine pure_ (i := 7) (N := some 80) (v := ?_) (a' := ?_) #[true, true, true, true, true, false, false, true, false, false, false, false, false, false, false, false, false, false, false, false, false, false] rfl rfl (any_of HT_.out (by kernel_rfl)) (fun _ _ _ h => h) (Or.inl ⟨by rfl, ?_⟩) ?_ ?_
                                  rotate_left
                                  · intro w'
                                    go_simp
                                    with_reducible rfl
                                  rotate_left
                                  · simp only [Act.put, List.setIfInBounds_toArray, List.set_cons_zero, List.set_cons_succ, i64_w, i32_w]
                                    rfl
                                  refine pure_ (i := 8) (N := some 81) (v := ?_) (a' := ?_) #[true, true, true, true, true, false, false, true, true, false, false, false, false, false, false, false, false, false, false, false, false, false] rfl rfl (any_of HT_.out (by kernel_rfl)) (fun _ _ _ h => h) (Or.inl ⟨by rfl, ?_⟩) ?_ ?_
                                  rotate_left
                                  · intro w'
                                    go_simp
                                    with_reducible rfl
                                  rotate_left
                                  · simp only [Act.put, List.setIfInBounds_toArray, List.set_cons_zero, List.set_cons_succ, i64_w, i32_w]
                                    rfl
                                  refine pure_ (i := 9) (N := some 82) (v := ?_) (a' := ?_) #[true, true, true, true, true, false, false, true, true, true, false, false, false, false, false, false, false, false, false, false, false, false] rfl rfl (any_of HT_.out (by kernel_rfl)) (fun _ _ _ h => h) (Or.inl ⟨by rfl, ?_⟩) ?_ ?_
                                  rotate_left
                                  · intro w'
                                    go_simp
                                    with_reducible rfl
                                  rotate_left
                                  · simp only [Act.put, List.setIfInBounds_toArray, List.set_cons_zero, List.set_cons_succ, i64_w, i32_w]
                                    rfl
                                  refine pure_ (i := 10) (N := some 83) (v := ?_) (a' := ?_) #[true, true, true, true, true, false, false, true, true, true, true, false, false, false, false, false, false, false, false, false, false, false] rfl rfl (any_of HT_.out (by kernel_rfl)) (fun _ _ _ h => h) (Or.inl ⟨by rfl, ?_⟩) ?_ ?_
                                  rotate_left
                                  · intro w'
                                    go_simp
                                    with_reducible rfl
                                  rotate_left
                                  · simp only [Act.put, List.setIfInBounds_toArray, List.set_cons_zero, List.set_cons_succ, i64_w, i32_w]
                                    rfl
                                  refine pure_ (i := 11) (N := some 84) (v := ?_) (a' := ?_) #[true, true, true, true, true, false, false, true, true, true, true, true, false, false, false, false, false, false, false, false, false, false] rfl rfl (any_of HT_.out (by kernel_rfl)) (fun _ _ _ h => h) (Or.inl ⟨by rfl, ?_⟩) ?_ ?_
                                  rotate_left
                                  · intro w'
                                    go_simp
                                    with_reducible rfl
                                  rotate_left
                                  · simp only [Act.put, List.setIfInBounds_toArray, List.set_cons_zero, List.set_cons_succ, i64_w, i32_w]
                                    rfl
                                  refine pure_ (i := 12) (N := some 85) (v := ?_) (a' := ?_) #[true, true, true, true, true, false, false, true, true, true, true, true, true, false, false, false, false, false, false, false, false, false] rfl rfl (any_of HT_.out (by kernel_rfl)) (fun _ _ _ h => h) (Or.inl ⟨by rfl, ?_⟩) ?_ ?_
                                  rotate_left
                                  · intro w'
                                    go_simp
                                    with_reducible rfl
                                  rotate_left
                                  · simp only [Act.put, List.setIfInBounds_toArray, List.set_cons_zero, List.set_cons_succ, i64_w, i32_w]
                                    rfl
                                  refine pure_ (i := 13) (N := some 86) (v := ?_) (a' := ?_) #[true, true, true, true, true, false, false, true, true, true, true, true, true, true, false, false, false, false, false, false, false, false] rfl rfl (any_of HT_.out (by kernel_rfl)) (fun _ _ _ h => h) (Or.inl ⟨by rfl, ?_⟩) ?_ ?_
                                  rotate_left
                                  · intro w'
                                    go_simp
                                    with_reducible rfl
                                  rotate_left
                                  · simp only [Act.put, List.setIfInBounds_toArray, List.set_cons_zero, List.set_cons_succ, i64_w, i32_w]
                                    rfl
                                  refine pure_ (i := 14) (N := some 87) (v := ?_) (a' := ?_) #[true, true, true, true, true, false, false, true, true, true, true, true, true, true, true, false, false, false, false, false, false, false] rfl rfl (any_of HT_.out (by kernel_rfl)) (fun _ _ _ h => h) (Or.inl ⟨by rfl, ?_⟩) ?_ ?_
                                  rotate_left
                                  · intro w'
                                    go_simp
                                    with_reducible rfl
                                  rotate_left
                                  · simp only [Act.put, List.setIfInBounds_toArray, List.set_cons_zero, List.set_cons_succ, i64_w, i32_w]
                                    rfl
                                  refine pure_ (i := 17) (N := some 90) (v := ?_) (a' := ?_) #[true, true, true, true, true, false, false, true, true, true, true, true, true, true, true, false, false, true, false, false, false, false] rfl rfl (any_of HT_.out (by kernel_rfl)) (fun _ _ _ h => h) (Or.inl ⟨by rfl, ?_⟩) ?_ ?_
                                  rotate_left
                                  · intro w'
                                    go_simp
                                    with_reducible rfl
                                  rotate_left
                                  · simp only [Act.put, List.setIfInBounds_toArray, List.set_cons_zero, List.set_cons_succ, i64_w, i32_w]
                                    rfl
                                  refine pure_ (i := 18) (N := some 91) (v := ?_) (a' := ?_) #[true, true, true, true, true, false, false, true, true, true, true, true, true, true, true, false, false, true, true, false, false, false] rfl rfl (any_of HT_.out (by kernel_rfl)) (fun _ _ _ h => h) (Or.inl ⟨by rfl, ?_⟩) ?_ ?_
                                  rotate_left
                                  · intro w'
                                    go_simp
                                    with_reducible rfl
                                  rotate_left
                                  · simp only [Act.put, List.setIfInBounds_toArray, List.set_cons_zero, List.set_cons_succ, i64_w, i32_w]
                                    rfl
                                  refine take_ (i := 5) (N := some 78) (v := ?_) (a' := ?_) #[true, true, true, true, true, true, false, true, true, true, true, true, true, true, true, false, false, true, true, false, false, false] rfl rfl (take_ofW HT_.out HW_.out (by kernel_rfl)) (fun _ _ _ h => h) (Or.inl ⟨by rfl, ?_⟩) hHeld ?_ ?_
                                  rotate_left
                                  · rintro w' ⟨s0, s1⟩
                                    go_simp
                                    with_reducible rfl
                                  rotate_left
                                  · simp only [Act.put, List.setIfInBounds_toArray, List.set_cons_zero, List.set_cons_succ, i64_w, i32_w]
                                    rfl
                                  refine pure_ (i := 6) (N := some 79) (v := ?_) (a' := ?_) #[true, true, true, true, true, true, true, true, true, true, true, true, true, true, true, false, false, true, true, false, false, false] rfl rfl (any_of HT_.out (by kernel_rfl)) (fun _ _ _ h => h) (Or.inl ⟨by rfl, ?_⟩) ?_ ?_
                                  rotate_left
                                  · intro w'
                                    go_simp
                                    with_reducible rfl
                                  rotate_left
                                  · simp only [Act.put, List.setIfInBounds_toArray, List.set_cons_zero, List.set_cons_succ, i64_w, i32_w]
                                    rfl
                                  refine take_ (i := 15) (N := some 88) (v := ?_) (a' := ?_) #[true, true, true, true, true, true, true, true, true, true, true, true, true, true, true, true, false, true, true, false, false, false] rfl rfl (take_ofW HT_.out HW_.out (by kernel_rfl)) (fun _ _ _ h => h) (Or.inl ⟨by rfl, ?_⟩) hHeld ?_ ?_
                                  rotate_left
                                  · rintro w' ⟨s0, s1⟩
                                    go_simp
                                    with_reducible rfl
                                  rotate_left
                                  · simp only [Act.put, List.setIfInBounds_toArray, List.set_cons_zero, List.set_cons_succ, i64_w, i32_w]
                                    rfl
                                  refine pure_ (i := 16) (N := some 89) (v := ?_) (a' := ?_) #[true, true, true, true, true, true, true, true, true, true, true, true, true, true, true, true, true, true, true, false, false, false] rfl rfl (any_of HT_.out (by kernel_rfl)) (fun _ _ _ h => h) (Or.inl ⟨by rfl, ?_⟩) ?_ ?_
                                  rotate_left
                                  · intro w'
                                    go_simp
                                    with_reducible rfl
                                  rotate_left
                                  · simp only [Act.put, List.setIfInBounds_toArray, List.set_cons_zero, List.set_cons_succ, i64_w, i32_w]
                                    rfl
                                  refine pure_ (i := 19) (N := some 92) (v := ?_) (a' := ?_) #[true, true, true, true, true, true, true, true, true, true, true, true, true, true, true, true, true, true, true, true, false, false] rfl rfl (any_of HT_.out (by kernel_rfl)) (fun _ _ _ h => h) (Or.inl ⟨by rfl, ?_⟩) ?_ ?_
                                  rotate_left
                                  · intro w'
                                    go_simp
                                    with_reducible rfl
                                  rotate_left
                                  · simp only [Act.put, List.setIfInBounds_toArray, List.set_cons_zero, List.set_cons_succ, i64_w, i32_w]
                                    rfl
                                  refine pure_ (i := 20) (N := some 93) (v := ?_) (a' := ?_) #[true, true, true, true, true, true, true, true, true, true, true, true, true, true, true, true, true, true, true, true, true, false] rfl rfl (any_of HT_.out (by kernel_rfl)) (fun _ _ _ h => h) (Or.inl ⟨by rfl, ?_⟩) ?_ ?_
                                  rotate_left
                                  · intro w'
                                    go_simp
                                    with_reducible rfl
                                  rotate_left
                                  · simp only [Act.put, List.setIfInBounds_toArray, List.set_cons_zero, List.set_cons_succ, i64_w, i32_w]
                                    rfl
                                  refine last_ (i := 21) (N := none) #[true, true, true, true, true, true, true, true, true, true, true, true, true, true, true, true, true, true, true, true, true, true] rfl rfl (one_of HT_.out (by kernel_rfl)) (by decide) (fun K hK => ?_)
                                  refine skip_ (w1 := ?_) (by rfl) rfl ?_ ?_
                                  rotate_left
                                  · go_simp
                                    rfl
                                  refine hK.out _ _ ?_
                                  clear hK K
                                  refine done_ (done_of HT_.out (by kernel_rfl)) ?_
                                  try go_wp2
                                  go_roundg k3
                                  case measure => have := HK1.out; have := HK2.out; have := HK3.out; omega
                                  case rel => exact ⟨(y111), (wrap64 (x10_3 + 1)), (by first | rfl | (simp; done) | (simp [*]; done)), H', ⟨by have := HK1.out; have := HK2.out; have := HK3.out; omega⟩, ⟨by (with_reducible repeat (first | apply Kd.R_alloc | apply Kd.R_drewN | apply Kd.R_drew)); (first | exact HQ39.out | (have q_ := HQ39.out; simp at q_; exact q_))⟩, ⟨by repeat (first | (with_reducible first | exact HB.out | apply below_alloc | apply pw_below_drewN | apply below_drew1 | refine below_set ?_ GB36.out) | exact HB.out)⟩⟩
                                · rw [if_neg c35] at H
                                  exact absurd H (by simp)
                              · rw [if_neg c34] at H
                                exact absurd H (by simp)
                            · rw [if_neg c32] at H
                              exact absurd H (by simp)
                          · rw [if_neg c31] at H
                            exact absurd H (by simp)
                      · rw [if_neg c28] at H
                        have c28b0 : decide (x10_3 < (wrap64 (2 * t101))) = false := decide_eq_false c28
                        clear c28
                        obtain rfl := Option.some.inj H
                        have hcv40 := own_string (P := Tryz.prog) Tryz.underlying48 Tryz.underlying5 Tryz.underlying9 (Kd.own_of_R HO_6.out)
                        go_wp2
                        go_ret
                        exact ⟨by first | rfl | (simp [errW_none, errW_some] <;> rfl) | (simp [*, errW_none, errW_some] <;> rfl), by repeat (first | (with_reducible first | exact HB.out | apply below_alloc | apply pw_below_drewN | apply below_drew1) | exact HB.out)⟩
    · rw [if_neg c5] at H
      exact absurd H (by simp)
  · rw [if_neg c4] at H
    exact absurd H (by simp)

end Go.Proofs.YtmkbebincjppnaaGreatDoor.PSes
