/- The laws' look at the messages: few, short, their numbers ascending. -/
import Derived.Test.YtmkbebincjppnaaGreatDoorCa
namespace Go.Proofs.YtmkbebincjppnaaGreatDoor
open Go.RowKit Go.Proofs.YtmkbebincjppnaaGreatDoorW.PrintWords Go.Proofs.YtmkbebincjppnaaGreatDoorW.PrintLast Go.Proofs.YtmkbebincjppnaaGreatDoorW.PrintMore Go.Proofs.YtmkbebincjppnaaGreatDoor.PLib
set_option linter.unusedVariables false
set_option linter.unusedSimpArgs false

abbrev Fi := S62
abbrev kFi : Kd Fi := k62
def KeptAt (l : List Fi) (j : Nat) : Prop := (l.getD j z62).f0.size ≤ 2000 ∧ (0 < j → (l.getD (j - 1) z62).f2 < (l.getD j z62).f2)
def KeptP (l : List Fi) : Prop := l.length ≤ 60 ∧ ∀ j, j < l.length → KeptAt l j

set_option maxHeartbeats 4000000 in
set_option maxRecDepth 100000 in
theorem kept_calls (A0 : Option Addr) (c0 : Nat) (l : List Fi) (w : World) (hr : kFi.C w A0 l.length l) :
    Calls Tryz.prog 9 #[.slice A0 l.length c0] w fun e w' => ∃ b, e = .returned (.bool b) ∧ (b = true ↔ KeptP l) ∧ Below w.heap.size w w' := by
  have hu := Tryz.underlying62
  have hm := hr.2.1
  have HR := Aside0.mk hr
  clear hr
  go_enter Tryz.func9, Tryz.ntmps9
  go_wp2
  go_loopg [7] l.length (fun gk v7 w' => ∃ i : Nat, v7 = .int .i64 i ∧ Aside0 (gk = l.length - i) ∧ Aside0 (i ≤ l.length) ∧ Aside0 (Below w.heap.size w w') ∧ Aside0 (∀ j, j < i → KeptAt l j))
  case atStart => exact ⟨0, rfl, ⟨by omega⟩, ⟨by omega⟩, ⟨Below.refl _ _⟩, ⟨fun j hj => absurd hj (by omega)⟩⟩
  case round =>
    obtain ⟨i, rfl, HG, HI, HB, HK⟩ := hrel
    by_cases hlt : i < l.length
    · have hltb : decide ((i : Int) < (l.length : Int)) = true := decide_eq_true (by omega)
      have i0 : (0 : Int) ≤ (i : Int) := by omega
      have i1 : (i : Int) < (l.length : Int) := by omega
      obtain ⟨ar, rfl, x0, x1, x2, x3, x4⟩ := at_T62 HR.out (i : Int) i0 i1
      have hrd : ∀ j : Nat, rd_T62 l (j : Int) = l.getD j z62 := fun j => by simp [rd_T62]
      rw [hrd] at x0 x1 x2 x3 x4
      simp only [Int.toNat_natCast] at x0 x1 x2 x3 x4
      replace x0 := (HB.out.cell (World.block_lt_of_cell? w _ x0)).trans x0
      replace x1 := (HB.out.cell (World.block_lt_of_cell? w _ x1)).trans x1
      replace x2 := (HB.out.cell (World.block_lt_of_cell? w _ x2)).trans x2
      replace x3 := (HB.out.cell (World.block_lt_of_cell? w _ x3)).trans x3
      replace x4 := (HB.out.cell (World.block_lt_of_cell? w _ x4)).trans x4
      generalize hx : l.getD i z62 = x at *
      have HX := Aside0.mk hx
      clear hx
      have i0t := eq_true i0
      have i1t := eq_true i1
      go_upto_region 4 with ((with_reducible refine gate_dst (N := 4) rfl ?_); refine box_event ?hg (N := 4) ?hd (cs := #[.string ⟨#[]⟩, .int .u16 0, .int .u16 0, .int .u8 0, .bool false]) (t := 62) ?hr ?_; (case hd => rfl); (case hg => rfl); (case hr => first | (go_simp; done) | (go_simp; rfl)); intro gb hgb w5 hbox hb; have HB5 := Aside0.mk (HB.out.trans (Below.mono hb HB.out.size)); have HX5 := Aside0.mk hbox; have HGE := Aside0.mk (show w.heap.size ≤ gb by rw [hgb]; exact HB.out.size); have p0 := (blk_cell hbox 0).trans rfl; have p1 := (blk_cell hbox 1).trans rfl; have p2 := (blk_cell hbox 2).trans rfl; have p3 := (blk_cell hbox 3).trans rfl; have p4 := (blk_cell hbox 4).trans rfl; have q0 := blk_frozen hbox 0; have q1 := blk_frozen hbox 1; have q2 := blk_frozen hbox 2; have q3 := blk_frozen hbox 3; have q4 := blk_frozen hbox 4; clear hb hgb hbox)
      obtain ⟨w6, hw6⟩ : ∃ w6, w6 = ((((w5.setCell ⟨gb, 0, none⟩ (.string x.f0)).setCell ⟨gb, 1, none⟩ (.int .u16 x.f1)).setCell ⟨gb, 2, none⟩ (.int .u16 x.f2)).setCell ⟨gb, 3, none⟩ (.int .u8 x.f3)).setCell ⟨gb, 4, none⟩ (.bool x.f4) := ⟨_, rfl⟩
      rw [← hw6]
      have HL := Aside0.mk (show Lkd w5 w6 gb from hw6 ▸ (((((Lkd.refl w5 gb).set 0 _).set 1 _).set 2 _).set 3 _).set 4 _)
      have HX6 := Aside0.mk (show w6.heap[gb]? = some (.cells #[.string x.f0, .int .u16 x.f1, .int .u16 x.f2, .int .u8 x.f3, .bool x.f4] 62 (0, 0)) from hw6 ▸ blk_put (cs' := #[.string x.f0, .int .u16 x.f1, .int .u16 x.f2, .int .u8 x.f3, .bool x.f4]) (blk_put (cs' := #[.string x.f0, .int .u16 x.f1, .int .u16 x.f2, .int .u8 x.f3, .bool false]) (blk_put (cs' := #[.string x.f0, .int .u16 x.f1, .int .u16 x.f2, .int .u8 0, .bool false]) (blk_put (cs' := #[.string x.f0, .int .u16 x.f1, .int .u16 0, .int .u8 0, .bool false]) (blk_put (cs' := #[.string x.f0, .int .u16 0, .int .u16 0, .int .u8 0, .bool false]) HX5.out 0 _ rfl) 1 _ rfl) 2 _ rfl) 3 _ rfl) 4 _ rfl)
      have HB6 := Aside0.mk (HB5.out.only HL.out HGE.out)
      clear hw6 p0 p1 p2 p3 p4 q0 q1 q2 q3 q4 x0 x1 x2 x3 x4
      have p0 := (blk_cell HX6.out 0).trans rfl
      have p2 := (blk_cell HX6.out 2).trans rfl
      by_cases e1 : (x.f0.size : Int) > 2000
      · have e1' : decide ((2000 : Int) < (x.f0.size : Int)) = true := decide_eq_true e1
        have HNO := Aside0.mk (show ¬ KeptP l from fun h => by have := (h.2 i hlt).1; rw [HX.out] at this; omega)
        clear e1
        go_wp2
        repeat (go_quiet (fail); try go_wp2)
        go_ret
        exact ⟨false, rfl, by simp [HNO.out], pw_below_drewN HB6.out _⟩
      · have e1' : decide ((2000 : Int) < (x.f0.size : Int)) = false := decide_eq_false e1
        cases i with
        | zero =>
          have hz : KeptAt l 0 := ⟨by rw [HX.out]; omega, fun h => absurd h (by omega)⟩
          have HZ := Aside0.mk (show ∀ j, j < 1 → KeptAt l j from fun j hj => (show j = 0 by omega) ▸ hz)
          clear e1 hz
          have e2' : decide ((0 : Int) < ((0 : Nat) : Int)) = false := by decide
          go_wp2
          repeat (go_quiet (fail); try go_wp2)
          go_roundg (l.length - 1)
          case measure => have := HG.out; omega
          case rel => exact ⟨1, by go_num, ⟨rfl⟩, ⟨by omega⟩, ⟨pw_below_drewN HB6.out _⟩, HZ⟩
        | succ i =>
          have e2' : decide ((0 : Int) < ((i + 1 : Nat) : Int)) = true := decide_eq_true (by omega)
          obtain ⟨ar2, har2, _, _, y2, _, _⟩ := at_T62 HR.out (i : Int) (by omega) (by omega)
          obtain rfl := Option.some.inj har2
          rw [hrd] at y2
          simp only [Int.toNat_natCast] at y2
          replace y2 := (HB6.out.cell (World.block_lt_of_cell? w _ y2)).trans y2
          generalize hy : l.getD i z62 = y at *
          have HY := Aside0.mk hy
          clear hy
          have hsub : IntKind.i64.wrap (((i + 1 : Nat) : Int) - 1) = (i : Int) := by rw [IntKind.wrap_i64]; omega
          have k0 := eq_true (show (0 : Int) ≤ (i : Int) by omega)
          have k1 := eq_true (show (i : Int) < (l.length : Int) by omega)
          by_cases e3 : x.f2 ≤ y.f2
          · have e3' : decide (x.f2 ≤ y.f2) = true := decide_eq_true e3
            have HNO := Aside0.mk (show ¬ KeptP l from fun h => by have h3 := (h.2 (i + 1) hlt).2 (by omega); rw [HX.out, show i + 1 - 1 = i by omega, HY.out] at h3; omega)
            clear e1 e3
            go_wp2
            repeat (go_quiet (fail); try go_wp2)
            go_ret
            exact ⟨false, rfl, by simp [HNO.out], pw_below_drewN HB6.out _⟩
          · have e3' : decide (x.f2 ≤ y.f2) = false := decide_eq_false e3
            have HZ := Aside0.mk (show ∀ j, j < i + 1 + 1 → KeptAt l j from fun j hj => by
              by_cases h : j < i + 1
              · exact HK.out j h
              · obtain rfl : j = i + 1 := by omega
                exact ⟨by rw [HX.out]; omega, fun _ => by rw [HX.out, show i + 1 - 1 = i by omega, HY.out]; omega⟩)
            clear e1 e3
            go_wp2
            repeat (go_quiet (fail); try go_wp2)
            go_roundg (l.length - (i + 1 + 1))
            case measure => have := HG.out; omega
            case rel => exact ⟨i + 1 + 1, by go_num, ⟨rfl⟩, ⟨by omega⟩, ⟨pw_below_drewN HB6.out _⟩, HZ⟩
    · have hltb : decide ((i : Int) < (l.length : Int)) = false := decide_eq_false (by omega)
      have hil : i = l.length := by have := HI.out; omega
      subst hil
      go_wp2
      go_ret
      refine ⟨_, rfl, ⟨fun h => ⟨?_, HK.out⟩, fun h => decide_eq_true ?_⟩, HB.out⟩
      · have := of_decide_eq_true h
        omega
      · have := h.1
        omega
/-- With the answer laid ahead. -/
theorem kept_told (A0 : Option Addr) (c0 : Nat) (l : List Fi) (b : Bool) (hb : b = true ↔ KeptP l) (w : World) (hr : kFi.C w A0 l.length l) :
    Calls Tryz.prog 9 #[.slice A0 l.length c0] w fun e w' => e = .returned (.bool b) ∧ Below w.heap.size w w' :=
  (kept_calls A0 c0 l w hr).mono (fun e w' ⟨b', he, hi, hB⟩ => ⟨by
    have : b = b' := by
      cases b <;> cases b' <;> simp_all
    rw [this]; exact he, hB⟩)
end Go.Proofs.YtmkbebincjppnaaGreatDoor
