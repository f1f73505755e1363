/- A run of pushes and a session hash upon a cache: what it tells. (Printed by wip/cas.py.) -/
import Derived.Test.YtmkbebincjppnaaGreatDoorSh
import Derived.Test.YtmkbebincjppnaaGreatDoorTs
import Derived.Test.YtmkbebincjppnaaGreatDoorCa
import Derived.Test.YtmkbebincjppnaaGreatDoorPf
namespace Go.Proofs.YtmkbebincjppnaaGreatDoor
open Go.RowKit Go.MuLone Go.Proofs.YtmkbebincjppnaaGreatDoorW.PrintWords Go.Proofs.YtmkbebincjppnaaGreatDoorW.PrintLast Go.Proofs.YtmkbebincjppnaaGreatDoorW.PrintMore Go.Proofs.YtmkbebincjppnaaGreatDoor.PLib
set_option linter.unusedVariables false
set_option linter.unusedSimpArgs false

/-- What a step may ask of a cache: a push, or its session hash. -/
def FitS (s : CS) (x : Sp) : Prop :=
  (x.f0 = 0 ∧ (s.done = false → s.its.length < 1000 ∧ x.f1.size ≤ 2000 ∧ ∀ k, k < s.its.length → ¬ ((s.its[k]?.getD ⟨0, false, 0, 0, []⟩).ep = x.f2 ∧ (s.its[k]?.getD ⟨0, false, 0, 0, []⟩).sq = x.f3 ∧ (s.its[k]?.getD ⟨0, false, 0, 0, []⟩).cl = x.f5)) ∧ x.f1.size ≤ 1000000000)
  ∨ (x.f0 = 5 ∧ x.f10.length ≤ 1000 ∧ (∀ t, t ∈ x.f10 → t.size ≤ 2000) ∧ 0 ≤ x.f9 ∧ x.f9 < 64)
theorem Inv.stepS {s : CS} (h : Inv s) {x : Sp} (hf : FitS s x) : Inv (stepTo s x) := by
  rcases hf with hf | ⟨h5, _⟩
  · exact h.step (.inl hf)
  · have e : stepTo s x = s := by rw [stepTo, if_neg (by omega), if_neg (by omega)]
    rw [e]
    exact h
def toldS (s : CS) (x : Sp) : Told :=
  if x.f0 = 0 then ⟨true, 0, ⟨#[]⟩, []⟩ else ⟨true, 0, tsum x.f9 (strOfNums (sessBytes s.its x.f2 x.f10)), []⟩
def toldsS (l : List Sp) : Nat → List Told
  | 0 => []
  | i + 1 => toldsS l i ++ [toldS (runTo l i) (l.getD i z31)]
theorem toldsS_length (l : List Sp) : ∀ i, (toldsS l i).length = i
  | 0 => rfl
  | i + 1 => by simp [toldsS, toldsS_length l i]
theorem toldsS_at (L : List Sp) : ∀ n i, i < n → (toldsS L n)[i]? = some (toldS (runTo L i) (L.getD i z31))
  | n + 1, i, h => by
    rw [toldsS]
    by_cases hi : i < n
    · rw [List.getElem?_append_left (by rw [toldsS_length]; exact hi)]
      exact toldsS_at L n i hi
    · obtain rfl : i = n := by omega
      rw [List.getElem?_append_right (by rw [toldsS_length]; exact Nat.le_refl _), toldsS_length, Nat.sub_self]
      rfl

set_option maxHeartbeats 16000000 in
set_option maxRecDepth 100000 in
theorem cacheS_calls (A0 : Option Addr) (c0 : Nat) (l : List Sp) (w : World) (hr0 : k31.C w A0 l.length l) (hl : l.length < 1000) (hf : ∀ i, i < l.length → FitS (runTo l i) (l.getD i z31)) :
    Calls Tryz.prog 12 #[.slice A0 l.length c0] w fun e w' => ∃ v, e = .returned v ∧ kTold.R 40 w' w.heap.size (fun _ => True) v (toldsS l l.length) ∧ Below w.heap.size w w' := by
  have huz := Tryz.underlying87
  have hus := Tryz.underlying31
  have hut := Tryz.underlying40
  have HR := Aside0.mk hr0
  have HFF := Aside0.mk hf
  clear hr0 hf
  go_enter Tryz.func12, Tryz.ntmps12
  go_upto_region 2 with (first
    | (go_at_call 28; refine (zNew_calls _ w.heap.size (Nat.le_refl _)).mono ?_; rintro e w1 ⟨h, rfl, hc, hb⟩; have HC1 := Aside0.mk hc; have HB1 := Aside0.mk hb; clear hc hb)
    | ((with_reducible refine gate_dst (N := 3) rfl ?_); refine box_event ?hg (N := 3) ?hd (cs := #[.pointer none]) (t := 87) ?hr ?_; (case hd => rfl); (case hg => rfl); (case hr => first | (go_simp; done) | (go_simp; rfl)); intro gz hgz w2 hbox hb; have HZ2 := Aside0.mk hbox; have HC2 := Aside0.mk (HC1.out.below hb); have HB2 := Aside0.mk (HB1.out.trans (Below.mono hb HB1.out.size)); have HZG := Aside0.mk (show w.heap.size ≤ gz by rw [hgz]; exact HB1.out.size); have z0 := zcell hbox; have z1 := blk_frozen hbox 0; clear hbox hb hgz))
  obtain ⟨w3, hw3⟩ : ∃ w3, w3 = w2.setCell ⟨gz, 0, none⟩ (.pointer (some ⟨h, 0, none⟩)) := ⟨_, rfl⟩
  rw [← hw3]
  have HC3 := Aside0.mk (show CaS w3 w.heap.size h ⟨[], 0, false⟩ from hw3 ▸ ⟨_, HC2.out.far HZ2.out (by decide) (by decide) 0 _⟩)
  have HZ3 := Aside0.mk (show w3.heap[gz]? = some (.cells #[.pointer (some ⟨h, 0, none⟩)] 87 (0, 0)) from hw3 ▸ blk_put HZ2.out 0 _ rfl)
  have HB3 := Aside0.mk (show Below w.heap.size w w3 from hw3 ▸ below_set HB2.out HZG.out)
  clear hw3 z0 z1 HC2 HC1 HB1 HB2 HZ2
  go_wp2
  go_loopg [4, 23] l.length (fun gk v4 v23 w' => ∃ i : Nat, v23 = .int .i64 i ∧ Aside0 (gk = l.length - i) ∧ Aside0 (i ≤ l.length) ∧ Aside0 (Below w.heap.size w w') ∧ Aside0 (CaS w' w.heap.size h (runTo l i)) ∧ Aside0 (w'.heap[gz]? = some (.cells #[.pointer (some ⟨h, 0, none⟩)] 87 (0, 0))) ∧
    Aside0 (kTold.R 40 w' w.heap.size (fun _ => True) v4 (toldsS l i)) ∧ Aside0 (Inv (runTo l i)))
  case atStart => exact ⟨0, rfl, ⟨by omega⟩, ⟨by omega⟩, HB3, HC3, HZ3, ⟨Kd.R_nil _ _ _ _ _⟩, ⟨⟨by simp [runTo], by simp [runTo], by simp [runTo], by simp [runTo]⟩⟩⟩
  case round =>
    obtain ⟨i, rfl, HG, HI, HB4, HC4, HZ4, HT4, HIV⟩ := hrel
    clear HB3 HC3 HZ3
    by_cases hlt : i < l.length
    · have hltb : decide ((i : Int) < (l.length : Int)) = true := decide_eq_true (by omega)
      have i0 : (0 : Int) ≤ (i : Int) := by omega
      have i1 : (i : Int) < (l.length : Int) := by omega
      obtain ⟨ar, A6, c6, A10, c10, rfl, x0, x1, x2, x3, x4, x5, x6, x7, x8, x9, x10, xr⟩ := at_T31 HR.out (i : Int) i0 i1
      have hrd : rd_T31 l (i : Int) = l.getD i z31 := by simp [rd_T31]
      rw [hrd] at x0 x1 x2 x3 x4 x5 x6 x7 x8 x9 x10 xr
      simp only [Int.toNat_natCast] at x0 x1 x2 x3 x4 x5 x6 x7 x8 x9 x10
      replace x0 := (HB4.out.cell (World.block_lt_of_cell? w _ x0)).trans x0
      replace x1 := (HB4.out.cell (World.block_lt_of_cell? w _ x1)).trans x1
      replace x2 := (HB4.out.cell (World.block_lt_of_cell? w _ x2)).trans x2
      replace x3 := (HB4.out.cell (World.block_lt_of_cell? w _ x3)).trans x3
      replace x4 := (HB4.out.cell (World.block_lt_of_cell? w _ x4)).trans x4
      replace x5 := (HB4.out.cell (World.block_lt_of_cell? w _ x5)).trans x5
      replace x6 := (HB4.out.cell (World.block_lt_of_cell? w _ x6)).trans x6
      replace x7 := (HB4.out.cell (World.block_lt_of_cell? w _ x7)).trans x7
      replace x8 := (HB4.out.cell (World.block_lt_of_cell? w _ x8)).trans x8
      replace x9 := (HB4.out.cell (World.block_lt_of_cell? w _ x9)).trans x9
      replace x10 := (HB4.out.cell (World.block_lt_of_cell? w _ x10)).trans x10
      have hFi := HFF.out i hlt
      clear hrd
      generalize hxx : l.getD i z31 = x at *
      generalize hss : runTo l i = s at *
      have HXX := Aside0.mk hxx
      have HSS := Aside0.mk hss
      have HF := Aside0.mk hFi
      have HXR := Aside0.mk xr
      clear hxx hss hFi xr
      have i0t := eq_true i0
      have i1t := eq_true i1
      go_upto_region 6 with ((with_reducible refine gate_dst (N := 6) rfl ?_); refine box_event ?hg (N := 6) ?hd (cs := #[.int .i64 0, .string ⟨#[]⟩, .int .u16 0, .int .u16 0, .int .u8 0, .bool false, .slice none 0 0, .int .i64 0, .int .i64 0, .int .i64 0, .slice none 0 0]) (t := 31) ?hr ?_; (case hd => rfl); (case hg => rfl); (case hr => first | (go_simp; done) | (go_simp; rfl)); intro sb hsb w5 hbox hb; have HB5 := Aside0.mk (HB4.out.trans (Below.mono hb HB4.out.size)); have HS5 := Aside0.mk hbox; have HC5 := Aside0.mk (show CaS w5 w.heap.size h s from ⟨_, HC4.out.choose_spec.below hb⟩); have HZ5 := Aside0.mk (blk_below HZ4.out hb); have HT5 := Aside0.mk (Kd.R_below HT4.out hb); have HSG := Aside0.mk (show w.heap.size ≤ sb by rw [hsb]; exact HB4.out.size); have p0 := (blk_cell hbox 0).trans rfl; have q0 := blk_frozen hbox 0; have p1 := (blk_cell hbox 1).trans rfl; have q1 := blk_frozen hbox 1; have p2 := (blk_cell hbox 2).trans rfl; have q2 := blk_frozen hbox 2; have p3 := (blk_cell hbox 3).trans rfl; have q3 := blk_frozen hbox 3; have p4 := (blk_cell hbox 4).trans rfl; have q4 := blk_frozen hbox 4; have p5 := (blk_cell hbox 5).trans rfl; have q5 := blk_frozen hbox 5; have p6 := (blk_cell hbox 6).trans rfl; have q6 := blk_frozen hbox 6; have p7 := (blk_cell hbox 7).trans rfl; have q7 := blk_frozen hbox 7; have p8 := (blk_cell hbox 8).trans rfl; have q8 := blk_frozen hbox 8; have p9 := (blk_cell hbox 9).trans rfl; have q9 := blk_frozen hbox 9; have p10 := (blk_cell hbox 10).trans rfl; have q10 := blk_frozen hbox 10; clear hb hsb hbox)
      obtain ⟨w6, hw6⟩ : ∃ w6, w6 = ((((((((((w5.setCell ⟨sb, 0, none⟩ (.int .i64 x.f0)).setCell ⟨sb, 1, none⟩ (.string x.f1)).setCell ⟨sb, 2, none⟩ (.int .u16 x.f2)).setCell ⟨sb, 3, none⟩ (.int .u16 x.f3)).setCell ⟨sb, 4, none⟩ (.int .u8 x.f4)).setCell ⟨sb, 5, none⟩ (.bool x.f5)).setCell ⟨sb, 6, none⟩ (.slice A6 x.f6.length c6)).setCell ⟨sb, 7, none⟩ (.int .i64 x.f7)).setCell ⟨sb, 8, none⟩ (.int .i64 x.f8)).setCell ⟨sb, 9, none⟩ (.int .i64 x.f9)).setCell ⟨sb, 10, none⟩ (.slice A10 x.f10.length c10) := ⟨_, rfl⟩
      rw [← hw6]
      obtain ⟨vc, hvc⟩ := HC5.out
      have HS6 := Aside0.mk (show w6.heap[sb]? = some (.cells #[.int .i64 x.f0, .string x.f1, .int .u16 x.f2, .int .u16 x.f3, .int .u8 x.f4, .bool x.f5, .slice A6 x.f6.length c6, .int .i64 x.f7, .int .i64 x.f8, .int .i64 x.f9, .slice A10 x.f10.length c10] 31 (0, 0)) from hw6 ▸ blk_put (cs' := #[.int .i64 x.f0, .string x.f1, .int .u16 x.f2, .int .u16 x.f3, .int .u8 x.f4, .bool x.f5, .slice A6 x.f6.length c6, .int .i64 x.f7, .int .i64 x.f8, .int .i64 x.f9, .slice A10 x.f10.length c10]) (blk_put (cs' := #[.int .i64 x.f0, .string x.f1, .int .u16 x.f2, .int .u16 x.f3, .int .u8 x.f4, .bool x.f5, .slice A6 x.f6.length c6, .int .i64 x.f7, .int .i64 x.f8, .int .i64 x.f9, .slice none 0 0]) (blk_put (cs' := #[.int .i64 x.f0, .string x.f1, .int .u16 x.f2, .int .u16 x.f3, .int .u8 x.f4, .bool x.f5, .slice A6 x.f6.length c6, .int .i64 x.f7, .int .i64 x.f8, .int .i64 0, .slice none 0 0]) (blk_put (cs' := #[.int .i64 x.f0, .string x.f1, .int .u16 x.f2, .int .u16 x.f3, .int .u8 x.f4, .bool x.f5, .slice A6 x.f6.length c6, .int .i64 x.f7, .int .i64 0, .int .i64 0, .slice none 0 0]) (blk_put (cs' := #[.int .i64 x.f0, .string x.f1, .int .u16 x.f2, .int .u16 x.f3, .int .u8 x.f4, .bool x.f5, .slice A6 x.f6.length c6, .int .i64 0, .int .i64 0, .int .i64 0, .slice none 0 0]) (blk_put (cs' := #[.int .i64 x.f0, .string x.f1, .int .u16 x.f2, .int .u16 x.f3, .int .u8 x.f4, .bool x.f5, .slice none 0 0, .int .i64 0, .int .i64 0, .int .i64 0, .slice none 0 0]) (blk_put (cs' := #[.int .i64 x.f0, .string x.f1, .int .u16 x.f2, .int .u16 x.f3, .int .u8 x.f4, .bool false, .slice none 0 0, .int .i64 0, .int .i64 0, .int .i64 0, .slice none 0 0]) (blk_put (cs' := #[.int .i64 x.f0, .string x.f1, .int .u16 x.f2, .int .u16 x.f3, .int .u8 0, .bool false, .slice none 0 0, .int .i64 0, .int .i64 0, .int .i64 0, .slice none 0 0]) (blk_put (cs' := #[.int .i64 x.f0, .string x.f1, .int .u16 x.f2, .int .u16 0, .int .u8 0, .bool false, .slice none 0 0, .int .i64 0, .int .i64 0, .int .i64 0, .slice none 0 0]) (blk_put (cs' := #[.int .i64 x.f0, .string x.f1, .int .u16 0, .int .u16 0, .int .u8 0, .bool false, .slice none 0 0, .int .i64 0, .int .i64 0, .int .i64 0, .slice none 0 0]) (blk_put (cs' := #[.int .i64 x.f0, .string ⟨#[]⟩, .int .u16 0, .int .u16 0, .int .u8 0, .bool false, .slice none 0 0, .int .i64 0, .int .i64 0, .int .i64 0, .slice none 0 0]) (HS5.out) 0 _ rfl) 1 _ rfl) 2 _ rfl) 3 _ rfl) 4 _ rfl) 5 _ rfl) 6 _ rfl) 7 _ rfl) 8 _ rfl) 9 _ rfl) 10 _ rfl)
      have HLK := Aside0.mk (show Lkd w5 w6 sb from hw6 ▸ (((((((((((Lkd.refl w5 sb).set 0 _).set 1 _).set 2 _).set 3 _).set 4 _).set 5 _).set 6 _).set 7 _).set 8 _).set 9 _).set 10 _)
      have HC6 := Aside0.mk (hvc.only HLK.out HS5.out (by decide) (by decide))
      have HZ6 := Aside0.mk ((HLK.out.blk gz (blk_ne HZ5.out HS5.out (by decide))).trans HZ5.out)
      have HT6 := Aside0.mk (R_only HT5.out HLK.out HS5.out (by decide))
      have HB6 := Aside0.mk (HB5.out.only HLK.out HSG.out)
      clear hw6 hvc p0 q0 p1 q1 p2 q2 p3 q3 p4 q4 p5 q5 p6 q6 p7 q7 p8 q8 p9 q9 p10 q10 x0 x1 x2 x3 x4 x5 x6 x7 x8 x9 x10 HB5 HS5 HC5 HZ5 HT5 HB4 HC4 HZ4 HT4
      go_upto_region 7 with ((with_reducible refine gate_dst (N := 7) rfl ?_); refine box_event ?hg (N := 7) ?hd (cs := #[.bool false, .int .i64 0, .string ⟨#[]⟩, .slice none 0 0, .slice none 0 0]) (t := 40) ?hr ?_; (case hd => rfl); (case hg => rfl); (case hr => first | (go_simp; done) | (go_simp; rfl)); intro tb htb w7 hbox hb; have HB7 := Aside0.mk (HB6.out.trans (Below.mono hb HB6.out.size)); have HTB7 := Aside0.mk hbox; have HC7 := Aside0.mk (HC6.out.below hb); have HZ7 := Aside0.mk (blk_below HZ6.out hb); have HS7 := Aside0.mk (blk_below HS6.out hb); have HT7 := Aside0.mk (show kTold.R 40 w7 w.heap.size (fun k => k < tb) u4 (toldsS l i) from Kd.R_below (Kd.R_mono (Kd.R_bound HT6.out) (fun k hk => by rw [htb]; exact hk.2.2.1)) hb); have HTG := Aside0.mk (show w.heap.size ≤ tb by rw [htb]; exact HB6.out.size); clear hb htb hbox)
      clear HB6 HC6 HZ6 HS6 HT6
      have s0 := (blk_cell HS7.out 0).trans rfl
      have z0 := zcell HZ7.out
      by_cases e0 : x.f0 = 0
      · have d0 : (x.f0 == 0) = true := by simpa using e0
        have HTO := Aside0.mk (show toldS s x = (⟨true, 0, ⟨#[]⟩, []⟩ : Told) from by rw [toldS, if_pos e0])
        have hlen : x.f1.size ≤ 1000000000 := by
          rcases HF.out with ⟨_, _, h3⟩ | ⟨h3, _⟩
          · exact h3
          · omega
        have HLEN := Aside0.mk (show x.f1.size ≤ 9223372036854775807 by omega)
        have y1 := (blk_cell HS7.out 1).trans rfl
        have y2 := (blk_cell HS7.out 2).trans rfl
        have y3 := (blk_cell HS7.out 3).trans rfl
        have y4 := (blk_cell HS7.out 4).trans rfl
        have y5 := (blk_cell HS7.out 5).trans rfl
        have t0 := (blk_cell HTB7.out 0).trans rfl
        have t1 := blk_frozen HTB7.out 0
        cases hdone : s.done with
        | false =>
          have hst : stepTo s x = ⟨s.its ++ [itemOf x], s.sz + x.f1.size, false⟩ := by rw [stepTo, if_pos e0, if_neg (by rw [hdone]; decide)]
          have HSTP := Aside0.mk hst
          have HQQ : Aside0 (s.its.length < 1000 ∧ x.f1.size ≤ 2000 ∧ ∀ k, k < s.its.length → ¬ ((s.its[k]?.getD ⟨0, false, 0, 0, []⟩).ep = x.f2 ∧ (s.its[k]?.getD ⟨0, false, 0, 0, []⟩).sq = x.f3 ∧ (s.its[k]?.getD ⟨0, false, 0, 0, []⟩).cl = x.f5)) := ⟨by
            rcases HF.out with ⟨_, h2, _⟩ | ⟨h3, _⟩
            · exact h2 hdone
            · omega⟩
          have HSZ := Aside0.mk (show s.sz + (bytesOf x.f1).length ≤ 8000000 from by have := HIV.out.z1; have := HIV.out.n; have := HQQ.out.2.1; rw [bytesOf_length]; omega)
          rw [hdone] at HC7
          clear hst hdone hlen e0
          go_upto_region 35 with (first
            | ((with_reducible refine gate_dst (N := 34) rfl ?_); refine bytes_event rfl (N := 34) rfl 9 48 (.tmp 33) rfl x.f1 (by rfl) Tryz.underlying9 Tryz.underlying48 Tryz.underlying5 HLEN.out ?_; intro ad cd w8 hst hb; have HST8 := Aside0.mk hst; have HC8 := Aside0.mk (HC7.out.below hb); have HZ8 := Aside0.mk (blk_below HZ7.out hb); have HTB8 := Aside0.mk (blk_below HTB7.out hb); have HT8 := Aside0.mk (Kd.R_below HT7.out hb); have HB8 := Aside0.mk (HB7.out.trans (Below.mono hb HB7.out.size)); have HS8 := Aside0.mk (blk_below HS7.out hb); clear y1 y2 y3 y4 y5 t0 t1 z0 s0; have y2 := (blk_cell HS8.out 2).trans rfl; have y3 := (blk_cell HS8.out 3).trans rfl; have y4 := (blk_cell HS8.out 4).trans rfl; have y5 := (blk_cell HS8.out 5).trans rfl; clear hst hb)
            | (go_at_call 29; refine (zPush_calls h _ 0 0 x.f2 x.f3 x.f4 x.f5 w8 (fun e w' => (∃ v', Ca w' w.heap.size h v' (s.its ++ [itemOf x]) (s.sz + (bytesOf x.f1).length) false 0) ∧ TK w8 w' ∧ Below w.heap.size w8 w') (fun w1 hb1 => (push_calls w.heap.size h vc s.its s.sz ad cd (bytesOf x.f1) x.f2 x.f3 x.f4 x.f5 w1 (HC8.out.below hb1) (Nat.le_trans HB8.out.size hb1.size) (HST8.out.tk (TK.of_below hb1)) HQQ.out.2.2 HQQ.out.1 HIV.out.z0 HSZ.out).mono (fun e w' hx => ⟨hx.1, hx.2.1, (TK.of_below hb1).trans hx.2.2.1, (Below.mono hb1 HB8.out.size).trans hx.2.2.2⟩))).mono ?_; rintro e w85 ⟨rfl, ⟨v85, hc⟩, htk, hbb⟩; have HC85 := Aside0.mk hc; have HZ85 := Aside0.mk (htk.keep HZ8.out (by decide) (by decide)); have HTB85 := Aside0.mk (htk.keep HTB8.out (by decide) (by decide)); have HT85 := Aside0.mk (R_tk HT8.out htk (by decide)); have HB85 := Aside0.mk (HB8.out.trans hbb); have t0 := (blk_cell HTB85.out 0).trans rfl; have t1 := blk_frozen HTB85.out 0; clear hc htk hbb))
          obtain ⟨w9, hw9⟩ : ∃ w9, w9 = w85.setCell ⟨tb, 0, none⟩ (.bool true) := ⟨_, rfl⟩
          rw [← hw9]
          have HLK9 := Aside0.mk (show Lkd w85 w9 tb from hw9 ▸ (Lkd.refl w85 tb).set 0 _)
          have HTB9 := Aside0.mk (show w9.heap[tb]? = some (.cells #[.bool true, .int .i64 0, .string ⟨#[]⟩, .slice none 0 0, .slice none 0 0] 40 (0, 0)) from hw9 ▸ blk_put (cs' := #[.bool true, .int .i64 0, .string ⟨#[]⟩, .slice none 0 0, .slice none 0 0]) HTB85.out 0 _ rfl)
          have HC9 := Aside0.mk (HC85.out.only HLK9.out HTB85.out (by decide) (by decide))
          have HZ9 := Aside0.mk ((HLK9.out.blk gz (blk_ne HZ85.out HTB85.out (by decide))).trans HZ85.out)
          have HT9 := Aside0.mk (Kd.R_mono (Kd.R_move HT85.out (fun k hk => HLK9.out.blk k (Nat.ne_of_lt hk))) (fun _ _ => trivial))
          have HB9 := Aside0.mk (HB85.out.only HLK9.out HTG.out)
          clear hw9 t0 t1
          have HPV9 := Aside0.mk (Kd.R_nil kPd 71 w9 w.heap.size (fun _ => False))
          have HOK9 := Aside0.mk (show ∀ k : Nat, False → True ∧ some k ≠ u4.ownBlock from fun _ hk => hk.elim)
          have HTD := Aside0.mk (show toldsS l (i + 1) = toldsS l i ++ [(⟨true, 0, ⟨#[]⟩, []⟩ : Told)] from by rw [toldsS, HSS.out, HXX.out]; exact congrArg (fun z => toldsS l i ++ [z]) HTO.out)
          have HRN := Aside0.mk (show runTo l (i + 1) = stepTo s x from by rw [runTo, HSS.out, HXX.out])
          have b0 := (blk_cell HTB9.out 0).trans rfl
          have b1 := (blk_cell HTB9.out 1).trans rfl
          have b2 := (blk_cell HTB9.out 2).trans rfl
          have b3 := (blk_cell HTB9.out 3).trans rfl
          have b4 := (blk_cell HTB9.out 4).trans rfl
          have HLL := Aside0.mk (show ((toldsS l i).length + 1) * 80 ≤ 140737488355328 by rw [toldsS_length]; omega)
          go_wp2_with ((with_reducible refine gate_dst (N := 159) rfl ?_); refine Kd.R_append kTold (w0 := w) w.heap.size rfl (.tmp 156) (.tmp 158) 33 40 (.agg #[.bool false, .int .i64 0, .string ⟨#[]⟩, .slice none 0 0, .slice none 0 0]) 80 rfl Tryz.underlying33 info_told rfl (by decide) (by omega) u4 (toldsS l i) ((⟨true, 0, ⟨#[]⟩, []⟩ : Told) : Told) [.bool true, .int .i64 0, .string ⟨#[]⟩, .slice none 0 0, .slice none 0 0] (fun _ => True) (fun _ => False) rfl rfl (kTold_mkM ((⟨true, 0, ⟨#[]⟩, []⟩ : Told) : Told) HPV9.out) HOK9.out (fun _ _ => trivial) HT9.out HB9.out HB9.out.size HLL.out ?_; intro v10 w10 ho hb hg hat; have HT10 := Aside0.mk ho; have HB10 := Aside0.mk hb; have HZ10 := Aside0.mk (blk_grown HZ9.out hg (Kd.R_ne HT9.out HZ9.out (by decide))); have HC10 := Aside0.mk (HC9.out.grownTy HT9.out hg (by decide) (by decide)); clear ho hb hg hat b0 b1 b2 b3 b4)
          go_roundg (l.length - (i + 1))
          case measure => have := HG.out; omega
          case rel => exact ⟨i + 1, by go_num, ⟨rfl⟩, ⟨by omega⟩, HB10, ⟨by rw [HRN.out, HSTP.out]; exact ⟨_, by simpa [bytesOf_length] using HC10.out⟩⟩, HZ10, ⟨by rw [HTD.out]; exact HT10.out⟩, ⟨by rw [HRN.out]; exact HIV.out.stepS HF.out⟩⟩
        | true =>
          have hst : stepTo s x = s := by rw [stepTo, if_pos e0, if_pos hdone]
          have HSTP := Aside0.mk hst
          rw [hdone] at HC7
          have HDN := Aside0.mk hdone
          clear hst hdone hlen e0
          go_upto_region 35 with (first
            | ((with_reducible refine gate_dst (N := 34) rfl ?_); refine bytes_event rfl (N := 34) rfl 9 48 (.tmp 33) rfl x.f1 (by rfl) Tryz.underlying9 Tryz.underlying48 Tryz.underlying5 HLEN.out ?_; intro ad cd w8 hst hb; have HST8 := Aside0.mk hst; have HC8 := Aside0.mk (HC7.out.below hb); have HZ8 := Aside0.mk (blk_below HZ7.out hb); have HTB8 := Aside0.mk (blk_below HTB7.out hb); have HT8 := Aside0.mk (Kd.R_below HT7.out hb); have HB8 := Aside0.mk (HB7.out.trans (Below.mono hb HB7.out.size)); have HS8 := Aside0.mk (blk_below HS7.out hb); clear y1 y2 y3 y4 y5 t0 t1 z0 s0; have y2 := (blk_cell HS8.out 2).trans rfl; have y3 := (blk_cell HS8.out 3).trans rfl; have y4 := (blk_cell HS8.out 4).trans rfl; have y5 := (blk_cell HS8.out 5).trans rfl; clear hst hb)
            | (go_at_call 29; refine (zPush_calls h _ 0 0 x.f2 x.f3 x.f4 x.f5 w8 (fun e w' => Below w8.heap.size w8 w') (fun w1 hb1 => (push_done w.heap.size h vc s.its s.sz (some ad) (bytesOf x.f1).length cd x.f2 x.f3 x.f4 x.f5 w1 (HC8.out.below hb1)).mono (fun e w' hx => ⟨hx.1, hb1.trans (Below.mono hx.2 hb1.size)⟩))).mono ?_; rintro e w85 ⟨rfl, hb⟩; have HC85 := Aside0.mk (HC8.out.below hb); have HZ85 := Aside0.mk (blk_below HZ8.out hb); have HTB85 := Aside0.mk (blk_below HTB8.out hb); have HT85 := Aside0.mk (Kd.R_below HT8.out hb); have HB85 := Aside0.mk (HB8.out.trans (Below.mono hb HB8.out.size)); have t0 := (blk_cell HTB85.out 0).trans rfl; have t1 := blk_frozen HTB85.out 0; clear hb))
          obtain ⟨w9, hw9⟩ : ∃ w9, w9 = w85.setCell ⟨tb, 0, none⟩ (.bool true) := ⟨_, rfl⟩
          rw [← hw9]
          have HLK9 := Aside0.mk (show Lkd w85 w9 tb from hw9 ▸ (Lkd.refl w85 tb).set 0 _)
          have HTB9 := Aside0.mk (show w9.heap[tb]? = some (.cells #[.bool true, .int .i64 0, .string ⟨#[]⟩, .slice none 0 0, .slice none 0 0] 40 (0, 0)) from hw9 ▸ blk_put (cs' := #[.bool true, .int .i64 0, .string ⟨#[]⟩, .slice none 0 0, .slice none 0 0]) HTB85.out 0 _ rfl)
          have HC9 := Aside0.mk (HC85.out.only HLK9.out HTB85.out (by decide) (by decide))
          have HZ9 := Aside0.mk ((HLK9.out.blk gz (blk_ne HZ85.out HTB85.out (by decide))).trans HZ85.out)
          have HT9 := Aside0.mk (Kd.R_mono (Kd.R_move HT85.out (fun k hk => HLK9.out.blk k (Nat.ne_of_lt hk))) (fun _ _ => trivial))
          have HB9 := Aside0.mk (HB85.out.only HLK9.out HTG.out)
          clear hw9 t0 t1
          have HPV9 := Aside0.mk (Kd.R_nil kPd 71 w9 w.heap.size (fun _ => False))
          have HOK9 := Aside0.mk (show ∀ k : Nat, False → True ∧ some k ≠ u4.ownBlock from fun _ hk => hk.elim)
          have HTD := Aside0.mk (show toldsS l (i + 1) = toldsS l i ++ [(⟨true, 0, ⟨#[]⟩, []⟩ : Told)] from by rw [toldsS, HSS.out, HXX.out]; exact congrArg (fun z => toldsS l i ++ [z]) HTO.out)
          have HRN := Aside0.mk (show runTo l (i + 1) = stepTo s x from by rw [runTo, HSS.out, HXX.out])
          have b0 := (blk_cell HTB9.out 0).trans rfl
          have b1 := (blk_cell HTB9.out 1).trans rfl
          have b2 := (blk_cell HTB9.out 2).trans rfl
          have b3 := (blk_cell HTB9.out 3).trans rfl
          have b4 := (blk_cell HTB9.out 4).trans rfl
          have HLL := Aside0.mk (show ((toldsS l i).length + 1) * 80 ≤ 140737488355328 by rw [toldsS_length]; omega)
          go_wp2_with ((with_reducible refine gate_dst (N := 159) rfl ?_); refine Kd.R_append kTold (w0 := w) w.heap.size rfl (.tmp 156) (.tmp 158) 33 40 (.agg #[.bool false, .int .i64 0, .string ⟨#[]⟩, .slice none 0 0, .slice none 0 0]) 80 rfl Tryz.underlying33 info_told rfl (by decide) (by omega) u4 (toldsS l i) ((⟨true, 0, ⟨#[]⟩, []⟩ : Told) : Told) [.bool true, .int .i64 0, .string ⟨#[]⟩, .slice none 0 0, .slice none 0 0] (fun _ => True) (fun _ => False) rfl rfl (kTold_mkM ((⟨true, 0, ⟨#[]⟩, []⟩ : Told) : Told) HPV9.out) HOK9.out (fun _ _ => trivial) HT9.out HB9.out HB9.out.size HLL.out ?_; intro v10 w10 ho hb hg hat; have HT10 := Aside0.mk ho; have HB10 := Aside0.mk hb; have HZ10 := Aside0.mk (blk_grown HZ9.out hg (Kd.R_ne HT9.out HZ9.out (by decide))); have HC10 := Aside0.mk (HC9.out.grownTy HT9.out hg (by decide) (by decide)); clear ho hb hg hat b0 b1 b2 b3 b4)
          go_roundg (l.length - (i + 1))
          case measure => have := HG.out; omega
          case rel => exact ⟨i + 1, by go_num, ⟨rfl⟩, ⟨by omega⟩, HB10, ⟨by rw [HRN.out, HSTP.out]; exact ⟨_, by rw [HDN.out]; exact HC10.out⟩⟩, HZ10, ⟨by rw [HTD.out]; exact HT10.out⟩, ⟨by rw [HRN.out]; exact HIV.out.stepS HF.out⟩⟩
      · have d0 : (x.f0 == 0) = false := by simpa using e0
        obtain ⟨e5, hq1, hq2, hq3, hq4⟩ : x.f0 = 5 ∧ x.f10.length ≤ 1000 ∧ (∀ t, t ∈ x.f10 → t.size ≤ 2000) ∧ 0 ≤ x.f9 ∧ x.f9 < 64 := by
          rcases HF.out with ⟨h3, _⟩ | h3
          · omega
          · exact h3
        have d1 : (x.f0 == 1) = false := by rw [e5]; rfl
        have d2 : (x.f0 == 2) = false := by rw [e5]; rfl
        have d3 : (x.f0 == 3) = false := by rw [e5]; rfl
        have d4 : (x.f0 == 4) = false := by rw [e5]; rfl
        have d5 : (x.f0 == 5) = true := by rw [e5]; rfl
        obtain ⟨r, hr⟩ : ∃ r, r = tsum x.f9 (strOfNums (sessBytes s.its x.f2 x.f10)) := ⟨_, rfl⟩
        have HTO := Aside0.mk (show toldS s x = (⟨true, 0, r, []⟩ : Told) from by rw [toldS, if_neg e0, hr])
        have HSTP := Aside0.mk (show stepTo s x = s from by rw [stepTo, if_neg e0, if_neg (by omega)])
        have HQQ := Aside0.mk (And.intro hq1 hq2)
        have hbl : (sessBytes s.its x.f2 x.f10).length ≤ 3000000 := by
          have h1 := mergeTo_le HIV.out.d (sessRules x.f2) 8
          have h2 := moreTo_le hq2 x.f10.length
          have h3 : x.f10.length * 2000 ≤ 1000 * 2000 := Nat.mul_le_mul_right _ hq1
          rw [sessBytes, List.length_append]
          omega
        obtain ⟨kf, hkf, hrl⟩ := tsum_f x.f9 (strOfNums (sessBytes s.its x.f2 x.f10)) hq3 hq4 (by rw [strOfNums_size]; omega)
        rw [← hr] at hkf hrl
        have HRF := Aside0.mk hkf
        have HRL := Aside0.mk hrl
        clear hq1 hq2 hq3 hq4 hbl hkf hrl hr e5 e0
        go_upto_region 32 with (fail)
        have HC8 := Aside0.mk (HC7.out.drew)
        have HZ8 := Aside0.mk (blk_drew HZ7.out)
        have HS8 := Aside0.mk (blk_drew HS7.out)
        have HTB8 := Aside0.mk (blk_drew HTB7.out)
        have HT8 := Aside0.mk (Kd.R_drew HT7.out)
        have HB8 := Aside0.mk (below_drew HB7.out)
        refine wp_region_noPanic ?_
        refine start_ (n := 20) (S := fun w' => w'.cell? ⟨gz, 0, none⟩ = some (.pointer (some ⟨h, 0, none⟩)) ∧ w'.cell? ⟨sb, 9, none⟩ = some (.int .i64 x.f9) ∧ w'.cell? ⟨sb, 2, none⟩ = some (.int .u16 x.f2) ∧ w'.cell? ⟨sb, 10, none⟩ = some (.slice A10 x.f10.length c10)) (ds := [17, 19]) #[false, false, false, false, false, false, false, false, false, false, false, false, false, false, false, false, false, false, false, false] (by kernel_rfl) rfl rfl ⟨zcell HZ8.out, (blk_cell HS8.out 9).trans rfl, (blk_cell HS8.out 2).trans rfl, (blk_cell HS8.out 10).trans rfl⟩ (fun hHeld => ?_)
        clear HC7 HZ7 HS7 HTB7 HT7 HB7
        generalize w7.drew = w8 at *
        refine take_ (i := 0) (N := (some 131)) (v := ?_) (a' := ?_) #[true, false, false, false, false, false, false, false, false, false, false, false, false, false, false, false, false, false, false, false] rfl rfl (by kernel_rfl) (fun _ _ _ h => h.elim) (Or.inl ⟨by rfl, ?_⟩) hHeld ?_ ?_
        rotate_left
        · intro w' s0; obtain ⟨s1, s2, s3, s4⟩ := s0
          go_simp
          with_reducible rfl
        rotate_left
        · simp only [Act.put, List.setIfInBounds_toArray, List.set_cons_zero, List.set_cons_succ, i64_w, i32_w]
          rfl
        refine pure_ (i := 1) (N := (some 132)) (v := ?_) (a' := ?_) #[true, true, false, false, false, false, false, false, false, false, false, false, false, false, false, false, false, false, false, false] rfl rfl (by kernel_rfl) (fun _ _ _ h => h.elim) (Or.inl ⟨by rfl, ?_⟩) ?_ ?_
        rotate_left
        · intro w'
          go_simp
          with_reducible rfl
        rotate_left
        · simp only [Act.put, List.setIfInBounds_toArray, List.set_cons_zero, List.set_cons_succ, i64_w, i32_w]
          rfl
        refine take_ (i := 2) (N := (some 133)) (v := ?_) (a' := ?_) #[true, true, true, false, false, false, false, false, false, false, false, false, false, false, false, false, false, false, false, false] rfl rfl (by kernel_rfl) (fun _ _ _ h => h.elim) (Or.inl ⟨by rfl, ?_⟩) hHeld ?_ ?_
        rotate_left
        · intro w' s0; obtain ⟨s1, s2, s3, s4⟩ := s0
          go_simp
          with_reducible rfl
        rotate_left
        · simp only [Act.put, List.setIfInBounds_toArray, List.set_cons_zero, List.set_cons_succ, i64_w, i32_w]
          rfl
        refine pure_ (i := 4) (N := (some 135)) (v := ?_) (a' := ?_) #[true, true, true, false, true, false, false, false, false, false, false, false, false, false, false, false, false, false, false, false] rfl rfl (by kernel_rfl) (fun _ _ _ h => h.elim) (Or.inl ⟨by rfl, ?_⟩) ?_ ?_
        rotate_left
        · intro w'
          go_simp
          with_reducible rfl
        rotate_left
        · simp only [Act.put, List.setIfInBounds_toArray, List.set_cons_zero, List.set_cons_succ, i64_w, i32_w]
          rfl
        refine take_ (i := 5) (N := (some 136)) (v := ?_) (a' := ?_) #[true, true, true, false, true, true, false, false, false, false, false, false, false, false, false, false, false, false, false, false] rfl rfl (by kernel_rfl) (fun _ _ _ h => h.elim) (Or.inl ⟨by rfl, ?_⟩) hHeld ?_ ?_
        rotate_left
        · intro w' s0; obtain ⟨s1, s2, s3, s4⟩ := s0
          go_simp
          with_reducible rfl
        rotate_left
        · simp only [Act.put, List.setIfInBounds_toArray, List.set_cons_zero, List.set_cons_succ, i64_w, i32_w]
          rfl
        refine pure_ (i := 6) (N := (some 137)) (v := ?_) (a' := ?_) #[true, true, true, false, true, true, true, false, false, false, false, false, false, false, false, false, false, false, false, false] rfl rfl (by kernel_rfl) (fun _ _ _ h => h.elim) (Or.inl ⟨by rfl, ?_⟩) ?_ ?_
        rotate_left
        · intro w'
          go_simp
          with_reducible rfl
        rotate_left
        · simp only [Act.put, List.setIfInBounds_toArray, List.set_cons_zero, List.set_cons_succ, i64_w, i32_w]
          rfl
        refine take_ (i := 7) (N := (some 138)) (v := ?_) (a' := ?_) #[true, true, true, false, true, true, true, true, false, false, false, false, false, false, false, false, false, false, false, false] rfl rfl (by kernel_rfl) (fun _ _ _ h => h.elim) (Or.inl ⟨by rfl, ?_⟩) hHeld ?_ ?_
        rotate_left
        · intro w' s0; obtain ⟨s1, s2, s3, s4⟩ := s0
          go_simp
          with_reducible rfl
        rotate_left
        · simp only [Act.put, List.setIfInBounds_toArray, List.set_cons_zero, List.set_cons_succ, i64_w, i32_w]
          rfl
        refine one_ (i := 3) (N := (some 134)) #[true, true, true, true, true, true, true, true, false, false, false, false, false, false, false, false, false, false, false, false] rfl rfl (by kernel_rfl) (by decide) (fun K hK => ?_)
        refine goes_ Tryz.func39 (by kernel_rfl) rfl #[.int .i64 x.f9] (by rfl) rfl rfl (by simp only [List.map_toArray, List.map_cons, List.map_nil]; rfl) ?_
        refine (thash_calls x.f9 w8).mono ?_
        rintro e wa ⟨g, rfl, hg, hb⟩
        refine ⟨_, rfl, ?_⟩
        have HBa := Aside0.mk (HB8.out.trans (Below.mono hb HB8.out.size))
        have HCa := Aside0.mk (HC8.out.below hb)
        have HZa := Aside0.mk (blk_below HZ8.out hb)
        have HSa := Aside0.mk (blk_below HS8.out hb)
        have HTBa := Aside0.mk (blk_below HTB8.out hb)
        have HTa := Aside0.mk (Kd.R_below HT8.out hb)
        have HGa := Aside0.mk hg
        clear hg
        refine hK.out _ _ ⟨zcell HZa.out, (blk_cell HSa.out 9).trans rfl, (blk_cell HSa.out 2).trans rfl, (blk_cell HSa.out 10).trans rfl⟩ (fun hHeld => ?_)
        clear hK K hb
        refine norm_ (a' := ?_) ?_ ?_
        rotate_left
        · simp only [Act.put, List.setIfInBounds_toArray, List.set_cons_zero, List.set_cons_succ]
          rfl
        refine one_ (i := 8) (N := (some 139)) #[true, true, true, true, true, true, true, true, true, false, false, false, false, false, false, false, false, false, false, false] rfl rfl (by kernel_rfl) (by decide) (fun K hK => ?_)
        refine goes_ Tryz.func40 (by kernel_rfl) rfl #[.slice A10 x.f10.length c10] (by rfl) rfl rfl (by simp only [List.map_toArray, List.map_cons, List.map_nil]; rfl) ?_
        refine (raw_calls A10 c10 x.f10 wa (Kd.C_below HXR.out.2.2.2 HBa.out) HQQ.out.1 (fun s hs => by have := HQQ.out.2 s hs; omega)).mono ?_
        rintro e wb ⟨mv, ts, rfl, hmr, htl, hraw, hb⟩
        refine ⟨_, rfl, ?_⟩
        have HBb := Aside0.mk (HBa.out.trans (Below.mono hb HBa.out.size))
        have HCb := Aside0.mk (HCa.out.below hb)
        have HZb := Aside0.mk (blk_below HZa.out hb)
        have HSb := Aside0.mk (blk_below HSa.out hb)
        have HTBb := Aside0.mk (blk_below HTBa.out hb)
        have HTb := Aside0.mk (Kd.R_below HTa.out hb)
        have HGb := Aside0.mk (blk_below HGa.out hb)
        obtain ⟨mA, mc, rfl⟩ := Kd.R_slice hmr
        have HMb := Aside0.mk ((Kd.R_reads' hmr).2.2)
        have HTLb := Aside0.mk htl
        have HRWb := Aside0.mk hraw
        clear hmr htl hraw
        refine hK.out _ _ ⟨zcell HZb.out, (blk_cell HSb.out 9).trans rfl, (blk_cell HSb.out 2).trans rfl, (blk_cell HSb.out 10).trans rfl⟩ (fun hHeld => ?_)
        clear hK K hb
        refine norm_ (a' := ?_) ?_ ?_
        rotate_left
        · simp only [Act.put, List.setIfInBounds_toArray, List.set_cons_zero, List.set_cons_succ]
          rfl
        refine one_ (i := 9) (N := (some 140)) #[true, true, true, true, true, true, true, true, true, true, false, false, false, false, false, false, false, false, false, false] rfl rfl (by kernel_rfl) (by decide) (fun K hK => ?_)
        refine goes_ Tryz.func38 (by kernel_rfl) rfl #[.agg #[.pointer (some ⟨h, 0, none⟩)], .func (.func 98) #[] #[.pointer (some ⟨g, 0, none⟩)], .int .u16 x.f2, .slice mA ts.length mc] (by rfl) rfl rfl (by simp only [List.map_toArray, List.map_cons, List.map_nil]; rfl) ?_
        refine (zSession_calls h _ _ x.f2 wb (fun u w' => ∃ A c, u = .slice A (bytesOf r).length c ∧ (Kd.int .u8).C w' A (bytesOf r).length (bytesOf r) ∧ Below wb.heap.size wb w') (fun w1 hb1 => (shash_calls w.heap.size h vc s.its s.sz s.done g x.f9 x.f2 mA mc ts x.f10 w1 kf r (HCb.out.below hb1) (Nat.le_trans HBb.out.size hb1.size) (by have := HIV.out.n; omega) HIV.out.d (blk_below HGb.out hb1) (Kd.C_below HMb.out hb1) HTLb.out (fun i s hs => (HRWb.out i s hs).imp fun t ht => ⟨ht.1, ht.2.blk (fun b cs fr h3 => hb1.block b (blk_lt h3))⟩) HQQ.out.1 HQQ.out.2 HRF.out HRL.out).mono (fun e w' hx => by
          obtain ⟨A, c, he, hR, hB⟩ := hx
          exact ⟨_, he, A, c, rfl, hR, hb1.trans (Below.mono hB hb1.size)⟩))).mono ?_
        rintro e wc ⟨u, rfl, rA, rc, rfl, hrr, hb⟩
        refine ⟨_, rfl, ?_⟩
        have HBc := Aside0.mk (HBb.out.trans (Below.mono hb HBb.out.size))
        have HCc := Aside0.mk (HCb.out.below hb)
        have HZc := Aside0.mk (blk_below HZb.out hb)
        have HSc := Aside0.mk (blk_below HSb.out hb)
        have HTBc := Aside0.mk (blk_below HTBb.out hb)
        have HTc := Aside0.mk (Kd.R_below HTb.out hb)
        have HRc := Aside0.mk hrr
        clear hrr
        refine hK.out _ _ ⟨zcell HZc.out, (blk_cell HSc.out 9).trans rfl, (blk_cell HSc.out 2).trans rfl, (blk_cell HSc.out 10).trans rfl⟩ (fun hHeld => ?_)
        clear hK K hb
        refine norm_ (a' := ?_) ?_ ?_
        rotate_left
        · simp only [Act.put, List.setIfInBounds_toArray, List.set_cons_zero, List.set_cons_succ]
          rfl
        refine pure_ (i := 10) (N := (some 141)) (v := ?_) (a' := ?_) #[true, true, true, true, true, true, true, true, true, true, true, false, false, false, false, false, false, false, false, false] rfl rfl (by kernel_rfl) (fun _ _ _ h => h.elim) (Or.inl ⟨by rfl, ?_⟩) ?_ ?_
        rotate_left
        · intro w'
          go_simp
          with_reducible rfl
        rotate_left
        · simp only [Act.put, List.setIfInBounds_toArray, List.set_cons_zero, List.set_cons_succ, i64_w, i32_w]
          rfl
        refine pure_ (i := 11) (N := (some 142)) (v := ?_) (a' := ?_) #[true, true, true, true, true, true, true, true, true, true, true, true, false, false, false, false, false, false, false, false] rfl rfl (by kernel_rfl) (fun _ _ _ h => h.elim) (Or.inl ⟨by rfl, ?_⟩) ?_ ?_
        rotate_left
        · intro w'
          go_simp
          with_reducible rfl
        rotate_left
        · simp only [Act.put, List.setIfInBounds_toArray, List.set_cons_zero, List.set_cons_succ, i64_w, i32_w]
          rfl
        refine one_ (i := 12) (N := (some 143)) #[true, true, true, true, true, true, true, true, true, true, true, true, true, false, false, false, false, false, false, false] rfl rfl (by kernel_rfl) (by decide) (fun K hK => ?_)
        refine goes_ Tryz.func37 (by kernel_rfl) rfl #[.slice rA (bytesOf r).length rc, .nilIface] (by rfl) rfl rfl (by simp only [List.map_toArray, List.map_cons, List.map_nil]; rfl) ?_
        refine (text_calls rA rc (bytesOf r) wc HRc.out).mono ?_
        rintro e wd ⟨rfl, hb⟩
        refine ⟨_, rfl, ?_⟩
        have HBd := Aside0.mk (HBc.out.trans (Below.mono hb HBc.out.size))
        have HCd := Aside0.mk (HCc.out.below hb)
        have HZd := Aside0.mk (blk_below HZc.out hb)
        have HSd := Aside0.mk (blk_below HSc.out hb)
        have HTBd := Aside0.mk (blk_below HTBc.out hb)
        have HTd := Aside0.mk (Kd.R_below HTc.out hb)
        rw [str_bytes]
        refine hK.out _ _ ⟨zcell HZd.out, (blk_cell HSd.out 9).trans rfl, (blk_cell HSd.out 2).trans rfl, (blk_cell HSd.out 10).trans rfl⟩ (fun hHeld => ?_)
        clear hK K hb
        refine norm_ (a' := ?_) ?_ ?_
        rotate_left
        · simp only [Act.put, List.setIfInBounds_toArray, List.set_cons_zero, List.set_cons_succ]
          rfl
        have t0 := (blk_cell HTBd.out 0).trans rfl
        have t1 := blk_frozen HTBd.out 0
        have t2 := (blk_cell HTBd.out 2).trans rfl
        have t3 := blk_frozen HTBd.out 2
        refine pure_ (i := 13) (N := (some 130)) (v := ?_) (a' := ?_) #[true, true, true, true, true, true, true, true, true, true, true, true, true, true, false, false, false, false, false, false] rfl rfl (by kernel_rfl) (fun _ _ _ h => h.elim) (Or.inl ⟨by rfl, ?_⟩) ?_ ?_
        rotate_left
        · intro w'
          go_simp
          with_reducible rfl
        rotate_left
        · simp only [Act.put, List.setIfInBounds_toArray, List.set_cons_zero, List.set_cons_succ, i64_w, i32_w]
          rfl
        refine pure_ (i := 14) (N := (some 144)) (v := ?_) (a' := ?_) #[true, true, true, true, true, true, true, true, true, true, true, true, true, true, true, false, false, false, false, false] rfl rfl (by kernel_rfl) (fun _ _ _ h => h.elim) (Or.inl ⟨by rfl, ?_⟩) ?_ ?_
        rotate_left
        · intro w'
          go_simp
          with_reducible rfl
        rotate_left
        · simp only [Act.put, List.setIfInBounds_toArray, List.set_cons_zero, List.set_cons_succ, i64_w, i32_w]
          rfl
        refine pure_ (i := 15) (N := (some 145)) (v := ?_) (a' := ?_) #[true, true, true, true, true, true, true, true, true, true, true, true, true, true, true, true, false, false, false, false] rfl rfl (by kernel_rfl) (fun _ _ _ h => h.elim) (Or.inl ⟨by rfl, ?_⟩) ?_ ?_
        rotate_left
        · intro w'
          go_simp
          with_reducible rfl
        rotate_left
        · simp only [Act.put, List.setIfInBounds_toArray, List.set_cons_zero, List.set_cons_succ, i64_w, i32_w]
          rfl
        refine pure_ (i := 16) (N := (some 146)) (v := ?_) (a' := ?_) #[true, true, true, true, true, true, true, true, true, true, true, true, true, true, true, true, true, false, false, false] rfl rfl (by kernel_rfl) (fun _ _ _ h => h.elim) (Or.inl ⟨by rfl, ?_⟩) ?_ ?_
        rotate_left
        · intro w'
          go_simp
          with_reducible rfl
        rotate_left
        · simp only [Act.put, List.setIfInBounds_toArray, List.set_cons_zero, List.set_cons_succ, i64_w, i32_w]
          rfl
        refine last_ (i := 17) (N := none) #[true, true, true, true, true, true, true, true, true, true, true, true, true, true, true, true, true, true, false, false] rfl rfl (by kernel_rfl) (by decide) (fun K hK => ?_)
        refine skip_ (w1 := ?_) (by rfl) rfl ?_ ?_
        rotate_left
        · go_simp
          rfl
        refine hK.out _ _ ?_
        clear hK K
        refine pure_ (i := 18) (N := (some 147)) (v := ?_) (a' := ?_) #[true, true, true, true, true, true, true, true, true, true, true, true, true, true, true, true, true, true, true, false] rfl rfl (by kernel_rfl) (fun _ _ _ h => h.elim) (Or.inl ⟨by rfl, ?_⟩) ?_ ?_
        rotate_left
        · intro w'
          go_simp
          with_reducible rfl
        rotate_left
        · simp only [Act.put, List.setIfInBounds_toArray, List.set_cons_zero, List.set_cons_succ, i64_w, i32_w]
          rfl
        refine last_ (i := 19) (N := none) #[true, true, true, true, true, true, true, true, true, true, true, true, true, true, true, true, true, true, true, true] rfl rfl (by kernel_rfl) (by decide) (fun K hK => ?_)
        refine skip_ (w1 := ?_) (by rfl) rfl ?_ ?_
        rotate_left
        · go_simp
          rfl
        refine hK.out _ _ ?_
        clear hK K
        refine done_ (by kernel_rfl) ?_
        refine NoPanic.normal ?_
        obtain ⟨w9, hw9⟩ : ∃ w9, w9 = (wd.setCell ⟨tb, 2, none⟩ (.string r)).setCell ⟨tb, 0, none⟩ (.bool true) := ⟨_, rfl⟩
        rw [← hw9]
        have HLK9 := Aside0.mk (show Lkd wd w9 tb from hw9 ▸ ((Lkd.refl wd tb).set 2 _).set 0 _)
        have HTB9 := Aside0.mk (show w9.heap[tb]? = some (.cells #[.bool true, .int .i64 0, .string r, .slice none 0 0, .slice none 0 0] 40 (0, 0)) from hw9 ▸ blk_put (cs' := #[.bool true, .int .i64 0, .string r, .slice none 0 0, .slice none 0 0]) (blk_put (cs' := #[.bool false, .int .i64 0, .string r, .slice none 0 0, .slice none 0 0]) HTBd.out 2 _ rfl) 0 _ rfl)
        have HC9 := Aside0.mk (HCd.out.only HLK9.out HTBd.out (by decide) (by decide))
        have HZ9 := Aside0.mk ((HLK9.out.blk gz (blk_ne HZd.out HTBd.out (by decide))).trans HZd.out)
        have HT9 := Aside0.mk (Kd.R_mono (Kd.R_move HTd.out (fun k hk => HLK9.out.blk k (Nat.ne_of_lt hk))) (fun _ _ => trivial))
        have HB9 := Aside0.mk (HBd.out.only HLK9.out HTG.out)
        clear hw9 t0 t1 t2 t3
        have HPV9 := Aside0.mk (Kd.R_nil kPd 71 w9 w.heap.size (fun _ => False))
        have HOK9 := Aside0.mk (show ∀ k : Nat, False → True ∧ some k ≠ u4.ownBlock from fun _ hk => hk.elim)
        have HTD := Aside0.mk (show toldsS l (i + 1) = toldsS l i ++ [(⟨true, 0, r, []⟩ : Told)] from by rw [toldsS, HSS.out, HXX.out]; exact congrArg (fun z => toldsS l i ++ [z]) HTO.out)
        have HRN := Aside0.mk (show runTo l (i + 1) = stepTo s x from by rw [runTo, HSS.out, HXX.out])
        have b0 := (blk_cell HTB9.out 0).trans rfl
        have b1 := (blk_cell HTB9.out 1).trans rfl
        have b2 := (blk_cell HTB9.out 2).trans rfl
        have b3 := (blk_cell HTB9.out 3).trans rfl
        have b4 := (blk_cell HTB9.out 4).trans rfl
        have HLL := Aside0.mk (show ((toldsS l i).length + 1) * 80 ≤ 140737488355328 by rw [toldsS_length]; omega)
        go_wp2_with ((with_reducible refine gate_dst (N := 159) rfl ?_); refine Kd.R_append kTold (w0 := w) w.heap.size rfl (.tmp 156) (.tmp 158) 33 40 (.agg #[.bool false, .int .i64 0, .string ⟨#[]⟩, .slice none 0 0, .slice none 0 0]) 80 rfl Tryz.underlying33 info_told rfl (by decide) (by omega) u4 (toldsS l i) ((⟨true, 0, r, []⟩ : Told) : Told) [.bool true, .int .i64 0, .string r, .slice none 0 0, .slice none 0 0] (fun _ => True) (fun _ => False) rfl rfl (kTold_mkM ((⟨true, 0, r, []⟩ : Told) : Told) HPV9.out) HOK9.out (fun _ _ => trivial) HT9.out HB9.out HB9.out.size HLL.out ?_; intro v10 w10 ho hb hg hat; have HT10 := Aside0.mk ho; have HB10 := Aside0.mk hb; have HZ10 := Aside0.mk (blk_grown HZ9.out hg (Kd.R_ne HT9.out HZ9.out (by decide))); have HC10 := Aside0.mk (HC9.out.grownTy HT9.out hg (by decide) (by decide)); clear ho hb hg hat b0 b1 b2 b3 b4)
        go_roundg (l.length - (i + 1))
        case measure => have := HG.out; omega
        case rel => exact ⟨i + 1, by go_num, ⟨rfl⟩, ⟨by omega⟩, HB10, ⟨by rw [HRN.out, HSTP.out]; exact ⟨_, HC10.out⟩⟩, HZ10, ⟨by rw [HTD.out]; exact HT10.out⟩, ⟨by rw [HRN.out]; exact HIV.out.stepS HF.out⟩⟩
    · have hltb : decide ((i : Int) < (l.length : Int)) = false := decide_eq_false (by omega)
      have hil : i = l.length := by have := HI.out; omega
      subst hil
      go_wp2
      go_ret
      exact ⟨_, rfl, HT4.out, HB4.out⟩
end Go.Proofs.YtmkbebincjppnaaGreatDoor
