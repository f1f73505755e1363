/- A run of steps upon a cache: what it tells. (Printed by wip/ca.py.) -/
import Derived.Test.YtmkbebincjppnaaGreatDoorZp
namespace Go.Proofs.YtmkbebincjppnaaGreatDoor
open Go.RowKit Go.MuLone Go.Proofs.YtmkbebincjppnaaGreatDoorW.PrintWords Go.Proofs.YtmkbebincjppnaaGreatDoorW.PrintLast Go.Proofs.YtmkbebincjppnaaGreatDoorW.PrintMore Go.Proofs.YtmkbebincjppnaaGreatDoor.PLib
set_option linter.unusedVariables false
set_option linter.unusedSimpArgs false

def kPd : Kd Pd := Kd.iso (Kd.pair Kd.bool (Kd.pair (Kd.int .u16) (Kd.pair (Kd.int .u16) Kd.string))) (fun x : Pd => (x.has, x.ep, x.sq, x.dat))
theorem kPd_mkM (w : World) (base : Nat) (ok : Nat → Prop) (x : Pd) : kPd.M w base ok x [.bool x.has, .int .u16 x.ep, .int .u16 x.sq, .string x.dat] := ⟨[.bool x.has], [.int .u16 x.ep, .int .u16 x.sq, .string x.dat], rfl, rfl, ⟨[.int .u16 x.ep], [.int .u16 x.sq, .string x.dat], rfl, rfl, ⟨[.int .u16 x.sq], [.string x.dat], rfl, rfl, rfl⟩⟩⟩
def kNil : Kd Unit := Kd.scalar (fun _ => .slice none 0 0) (fun _ => rfl)
def kTold : Kd Told := Kd.iso (Kd.pair Kd.bool (Kd.pair (Kd.int .i64) (Kd.pair Kd.string (Kd.pair (Kd.slice 71 kPd) kNil)))) (fun x : Told => (x.ok, x.next, x.text, x.pulled, ()))
theorem kTold_mkM {w : World} {base : Nat} {ok : Nat → Prop} {v : Value} (x : Told) (h : kPd.R 71 w base ok v x.pulled) : kTold.M w base ok x [.bool x.ok, .int .i64 x.next, .string x.text, v, .slice none 0 0] :=
  ⟨[.bool x.ok], [.int .i64 x.next, .string x.text, v, .slice none 0 0], rfl, rfl, [.int .i64 x.next], [.string x.text, v, .slice none 0 0], rfl, rfl, [.string x.text], [v, .slice none 0 0], rfl, rfl, [v], [.slice none 0 0], rfl, ⟨v, rfl, h⟩, rfl⟩
theorem info_told : (Tryz.prog.info? 40).map (fun i => (i.zero, i.size, i.bytes)) = some (some (.agg #[.bool false, .int .i64 0, .string ⟨#[]⟩, .slice none 0 0, .slice none 0 0]), 5, 80) := by kernel_rfl
theorem info_pulled : (Tryz.prog.info? 71).map (fun i => (i.zero, i.size, i.bytes)) = some (some (.agg #[.bool false, .int .u16 0, .int .u16 0, .string ⟨#[]⟩]), 4, 24) := by kernel_rfl

section
variable {α β : Type} {d : Kd α} {d' : Kd β} {e e' base b' : Nat} {w w1 : World} {ok ok' : Nat → Prop} {v u : Value} {xs : List α} {ys : List β}
/-- A row of another type has grown. -/
theorem R_grownTy (h : d.R e w base ok v xs) (hu : d'.R e' w b' ok' u ys) (hg : w.grownBy w1 u.ownBlock) (ht : ∀ q, q ∈ e :: d.E → q ≠ e') : d.R e w1 base ok v xs := by
  obtain ⟨inner, ho⟩ := Kd.R_own hu
  refine Kd.R_mono (Kd.R_grown (Kd.R_mono (Kd.R_bound h) (fun k hk => (⟨hk.1, fun e2 => ?_⟩ : ok k ∧ some k ≠ u.ownBlock))) hg (fun k hk => hk.2)) (fun _ hk => hk.1)
  obtain ⟨_, _, _, q, hq, cells, hc⟩ := hk
  obtain ⟨cells', hc'⟩ := own_typed ho k e2.symm
  rw [hc] at hc'
  injection hc' with hc'
  injection hc' with _ hc'
  exact ht q hq hc'
end
section
variable {w W : World} {base h : Nat} {v : Value} {its : List It} {sz : Int} {done : Bool} {lk : Int}
theorem Ca.far (c : Ca w base h v its sz done lk) {g t : Nat} {cs : Array Value} (hb : w.heap[g]? = some (.cells cs t (0, 0))) (h1 : 242 ≠ t) (ht : ∀ q, q ∈ 158 :: kRef.E → q ≠ t) (j : Nat) (u : Value) : Ca (w.setCell ⟨g, j, none⟩ u) base h v its sz done lk :=
  ⟨blk_far (p := ⟨g, j, none⟩) c.blk (blk_ne c.blk hb h1) u, c.ge, Kd.R_set c.row hb ht j u⟩
theorem Ca.grownTy {β : Type} {d' : Kd β} {e' b' : Nat} {ok' : Nat → Prop} {u : Value} {ys : List β} (c : Ca w base h v its sz done lk) (hu : d'.R e' w b' ok' u ys) (hg : w.grownBy W u.ownBlock) (h1 : e' ≠ 242) (ht : ∀ q, q ∈ 158 :: kRef.E → q ≠ e') : Ca W base h v its sz done lk :=
  ⟨blk_grown c.blk hg (Kd.R_ne hu c.blk h1), c.ge, R_grownTy c.row hu hg ht⟩
end
theorem Lkd.refl (w : World) (g : Nat) : Lkd w w g := ⟨rfl, rfl, rfl, rfl, fun _ _ => rfl⟩
theorem Lkd.set {w W : World} {g : Nat} (l : Lkd w W g) (j : Nat) (u : Value) : Lkd w (W.setCell ⟨g, j, none⟩ u) g :=
  ⟨l.os, l.tape, l.output, by simpa [World.setCell] using l.size, fun i hi => (Below.heap_setCell W ⟨g, j, none⟩ u i hi).trans (l.blk i hi)⟩
theorem R_only {α : Type} {d : Kd α} {e base g t : Nat} {w W : World} {ok : Nat → Prop} {v : Value} {xs : List α} {cs : Array Value} (h : d.R e w base ok v xs) (l : Lkd w W g) (hb : w.heap[g]? = some (.cells cs t (0, 0))) (ht : ∀ q, q ∈ e :: d.E → q ≠ t) : d.R e W base ok v xs :=
  Kd.R_mono (Kd.R_move (Kd.R_types h hb ht) (fun k hk => l.blk k hk.2)) (fun _ hk => hk.1)
theorem Ca.only {w W : World} {base h : Nat} {v : Value} {its : List It} {sz : Int} {done : Bool} {lk : Int} (c : Ca w base h v its sz done lk) {g t : Nat} {cs : Array Value} (l : Lkd w W g) (hb : w.heap[g]? = some (.cells cs t (0, 0))) (h1 : 242 ≠ t) (ht : ∀ q, q ∈ 158 :: kRef.E → q ≠ t) : Ca W base h v its sz done lk :=
  ⟨(l.blk h (blk_ne c.blk hb h1)).trans c.blk, c.ge, R_only c.row l hb ht⟩
theorem _root_.Go.RowKit.Below.only {n : Nat} {a w W : World} {g : Nat} (h : Below n a w) (l : Lkd w W g) (hg : n ≤ g) : Below n a W :=
  ⟨l.os.trans h.os, l.tape.trans h.tape, l.output.trans h.output, by rw [l.size]; exact h.size, fun i hi => (l.blk i (by omega)).trans (h.block i hi)⟩
/-- The cache as the model has it. -/
def CaS (w : World) (base h : Nat) (s : CS) : Prop := ∃ v, Ca w base h v s.its s.sz s.done 0
def scells (x : Sp) (A6 A10 : Option Addr) (c6 c10 : Nat) : Array Value := #[.int .i64 x.f0, .string x.f1, .int .u16 x.f2, .int .u16 x.f3, .int .u8 x.f4, .bool x.f5, .slice A6 x.f6.length c6, .int .i64 x.f7, .int .i64 x.f8, .int .i64 x.f9, .slice A10 x.f10.length c10]

set_option maxHeartbeats 16000000 in
set_option maxRecDepth 100000 in
theorem cache_calls (A0 : Option Addr) (c0 : Nat) (l : List Sp) (w : World) (hr0 : k31.C w A0 l.length l) (hl : l.length < 1000) (hf : ∀ i, i < l.length → Fit (runTo l i) (l.getD i z31)) :
    Calls Tryz.prog 12 #[.slice A0 l.length c0] w fun e w' => ∃ v, e = .returned v ∧ kTold.R 40 w' w.heap.size (fun _ => True) v (tolds l l.length) ∧ Below w.heap.size w w' := by
  have huz := Tryz.underlying87
  have hus := Tryz.underlying31
  have hut := Tryz.underlying40
  have HR := Aside0.mk hr0
  have HFF := Aside0.mk hf
  clear hr0 hf
  go_enter Tryz.func12, Tryz.ntmps12
  go_upto_region 2 with (first
    | (go_at_call 28; refine (zNew_calls _ w.heap.size (Nat.le_refl _)).mono ?_; rintro e w1 ⟨h, rfl, hc, hb⟩; have HC1 := Aside0.mk hc; have HB1 := Aside0.mk hb; clear hc hb)
    | ((with_reducible refine gate_dst (N := 3) rfl ?_); refine box_event ?hg (N := 3) ?hd (cs := #[.pointer none]) (t := 87) ?hr ?_; (case hd => rfl); (case hg => rfl); (case hr => first | (go_simp; done) | (go_simp; rfl)); intro gz hgz w2 hbox hb; have HZ2 := Aside0.mk hbox; have HC2 := Aside0.mk (HC1.out.below hb); have HB2 := Aside0.mk (HB1.out.trans (Below.mono hb HB1.out.size)); have HZG := Aside0.mk (show w.heap.size ≤ gz by rw [hgz]; exact HB1.out.size); have z0 := zcell hbox; have z1 := blk_frozen hbox 0; clear hbox hb hgz))
  obtain ⟨w3, hw3⟩ : ∃ w3, w3 = w2.setCell ⟨gz, 0, none⟩ (.pointer (some ⟨h, 0, none⟩)) := ⟨_, rfl⟩
  rw [← hw3]
  have HC3 := Aside0.mk (show CaS w3 w.heap.size h ⟨[], 0, false⟩ from hw3 ▸ ⟨_, HC2.out.far HZ2.out (by decide) (by decide) 0 _⟩)
  have HZ3 := Aside0.mk (show w3.heap[gz]? = some (.cells #[.pointer (some ⟨h, 0, none⟩)] 87 (0, 0)) from hw3 ▸ blk_put HZ2.out 0 _ rfl)
  have HB3 := Aside0.mk (show Below w.heap.size w w3 from hw3 ▸ below_set HB2.out HZG.out)
  clear hw3 z0 z1 HC2 HC1 HB1 HB2 HZ2
  go_wp2
  go_loopg [4, 23] l.length (fun gk v4 v23 w' => ∃ i : Nat, v23 = .int .i64 i ∧ Aside0 (gk = l.length - i) ∧ Aside0 (i ≤ l.length) ∧ Aside0 (Below w.heap.size w w') ∧ Aside0 (CaS w' w.heap.size h (runTo l i)) ∧ Aside0 (w'.heap[gz]? = some (.cells #[.pointer (some ⟨h, 0, none⟩)] 87 (0, 0))) ∧
    Aside0 (kTold.R 40 w' w.heap.size (fun _ => True) v4 (tolds l i)) ∧ Aside0 (Inv (runTo l i)))
  case atStart => exact ⟨0, rfl, ⟨by omega⟩, ⟨by omega⟩, HB3, HC3, HZ3, ⟨Kd.R_nil _ _ _ _ _⟩, ⟨⟨by simp [runTo], by simp [runTo], by simp [runTo], by simp [runTo]⟩⟩⟩
  case round =>
    obtain ⟨i, rfl, HG, HI, HB4, HC4, HZ4, HT4, HIV⟩ := hrel
    clear HB3 HC3 HZ3
    by_cases hlt : i < l.length
    · have hltb : decide ((i : Int) < (l.length : Int)) = true := decide_eq_true (by omega)
      have i0 : (0 : Int) ≤ (i : Int) := by omega
      have i1 : (i : Int) < (l.length : Int) := by omega
      obtain ⟨ar, A6, c6, A10, c10, rfl, x0, x1, x2, x3, x4, x5, x6, x7, x8, x9, x10, xr⟩ := at_T31 HR.out (i : Int) i0 i1
      have hrd : rd_T31 l (i : Int) = l.getD i z31 := by simp [rd_T31]
      rw [hrd] at x0 x1 x2 x3 x4 x5 x6 x7 x8 x9 x10 xr
      simp only [Int.toNat_natCast] at x0 x1 x2 x3 x4 x5 x6 x7 x8 x9 x10
      replace x0 := (HB4.out.cell (World.block_lt_of_cell? w _ x0)).trans x0
      replace x1 := (HB4.out.cell (World.block_lt_of_cell? w _ x1)).trans x1
      replace x2 := (HB4.out.cell (World.block_lt_of_cell? w _ x2)).trans x2
      replace x3 := (HB4.out.cell (World.block_lt_of_cell? w _ x3)).trans x3
      replace x4 := (HB4.out.cell (World.block_lt_of_cell? w _ x4)).trans x4
      replace x5 := (HB4.out.cell (World.block_lt_of_cell? w _ x5)).trans x5
      replace x6 := (HB4.out.cell (World.block_lt_of_cell? w _ x6)).trans x6
      replace x7 := (HB4.out.cell (World.block_lt_of_cell? w _ x7)).trans x7
      replace x8 := (HB4.out.cell (World.block_lt_of_cell? w _ x8)).trans x8
      replace x9 := (HB4.out.cell (World.block_lt_of_cell? w _ x9)).trans x9
      replace x10 := (HB4.out.cell (World.block_lt_of_cell? w _ x10)).trans x10
      have hFi := HFF.out i hlt
      clear hrd
      generalize hxx : l.getD i z31 = x at *
      generalize hss : runTo l i = s at *
      have HXX := Aside0.mk hxx
      have HSS := Aside0.mk hss
      have HF := Aside0.mk hFi
      have HXR := Aside0.mk xr
      clear hxx hss hFi xr
      have i0t := eq_true i0
      have i1t := eq_true i1
      go_upto_region 6 with ((with_reducible refine gate_dst (N := 6) rfl ?_); refine box_event ?hg (N := 6) ?hd (cs := #[.int .i64 0, .string ⟨#[]⟩, .int .u16 0, .int .u16 0, .int .u8 0, .bool false, .slice none 0 0, .int .i64 0, .int .i64 0, .int .i64 0, .slice none 0 0]) (t := 31) ?hr ?_; (case hd => rfl); (case hg => rfl); (case hr => first | (go_simp; done) | (go_simp; rfl)); intro sb hsb w5 hbox hb; have HB5 := Aside0.mk (HB4.out.trans (Below.mono hb HB4.out.size)); have HS5 := Aside0.mk hbox; have HC5 := Aside0.mk (show CaS w5 w.heap.size h s from ⟨_, HC4.out.choose_spec.below hb⟩); have HZ5 := Aside0.mk (blk_below HZ4.out hb); have HT5 := Aside0.mk (Kd.R_below HT4.out hb); have HSG := Aside0.mk (show w.heap.size ≤ sb by rw [hsb]; exact HB4.out.size); have p0 := (blk_cell hbox 0).trans rfl; have q0 := blk_frozen hbox 0; have p1 := (blk_cell hbox 1).trans rfl; have q1 := blk_frozen hbox 1; have p2 := (blk_cell hbox 2).trans rfl; have q2 := blk_frozen hbox 2; have p3 := (blk_cell hbox 3).trans rfl; have q3 := blk_frozen hbox 3; have p4 := (blk_cell hbox 4).trans rfl; have q4 := blk_frozen hbox 4; have p5 := (blk_cell hbox 5).trans rfl; have q5 := blk_frozen hbox 5; have p6 := (blk_cell hbox 6).trans rfl; have q6 := blk_frozen hbox 6; have p7 := (blk_cell hbox 7).trans rfl; have q7 := blk_frozen hbox 7; have p8 := (blk_cell hbox 8).trans rfl; have q8 := blk_frozen hbox 8; have p9 := (blk_cell hbox 9).trans rfl; have q9 := blk_frozen hbox 9; have p10 := (blk_cell hbox 10).trans rfl; have q10 := blk_frozen hbox 10; clear hb hsb hbox)
      obtain ⟨w6, hw6⟩ : ∃ w6, w6 = ((((((((((w5.setCell ⟨sb, 0, none⟩ (.int .i64 x.f0)).setCell ⟨sb, 1, none⟩ (.string x.f1)).setCell ⟨sb, 2, none⟩ (.int .u16 x.f2)).setCell ⟨sb, 3, none⟩ (.int .u16 x.f3)).setCell ⟨sb, 4, none⟩ (.int .u8 x.f4)).setCell ⟨sb, 5, none⟩ (.bool x.f5)).setCell ⟨sb, 6, none⟩ (.slice A6 x.f6.length c6)).setCell ⟨sb, 7, none⟩ (.int .i64 x.f7)).setCell ⟨sb, 8, none⟩ (.int .i64 x.f8)).setCell ⟨sb, 9, none⟩ (.int .i64 x.f9)).setCell ⟨sb, 10, none⟩ (.slice A10 x.f10.length c10) := ⟨_, rfl⟩
      rw [← hw6]
      obtain ⟨vc, hvc⟩ := HC5.out
      have HS6 := Aside0.mk (show w6.heap[sb]? = some (.cells #[.int .i64 x.f0, .string x.f1, .int .u16 x.f2, .int .u16 x.f3, .int .u8 x.f4, .bool x.f5, .slice A6 x.f6.length c6, .int .i64 x.f7, .int .i64 x.f8, .int .i64 x.f9, .slice A10 x.f10.length c10] 31 (0, 0)) from hw6 ▸ blk_put (cs' := #[.int .i64 x.f0, .string x.f1, .int .u16 x.f2, .int .u16 x.f3, .int .u8 x.f4, .bool x.f5, .slice A6 x.f6.length c6, .int .i64 x.f7, .int .i64 x.f8, .int .i64 x.f9, .slice A10 x.f10.length c10]) (blk_put (cs' := #[.int .i64 x.f0, .string x.f1, .int .u16 x.f2, .int .u16 x.f3, .int .u8 x.f4, .bool x.f5, .slice A6 x.f6.length c6, .int .i64 x.f7, .int .i64 x.f8, .int .i64 x.f9, .slice none 0 0]) (blk_put (cs' := #[.int .i64 x.f0, .string x.f1, .int .u16 x.f2, .int .u16 x.f3, .int .u8 x.f4, .bool x.f5, .slice A6 x.f6.length c6, .int .i64 x.f7, .int .i64 x.f8, .int .i64 0, .slice none 0 0]) (blk_put (cs' := #[.int .i64 x.f0, .string x.f1, .int .u16 x.f2, .int .u16 x.f3, .int .u8 x.f4, .bool x.f5, .slice A6 x.f6.length c6, .int .i64 x.f7, .int .i64 0, .int .i64 0, .slice none 0 0]) (blk_put (cs' := #[.int .i64 x.f0, .string x.f1, .int .u16 x.f2, .int .u16 x.f3, .int .u8 x.f4, .bool x.f5, .slice A6 x.f6.length c6, .int .i64 0, .int .i64 0, .int .i64 0, .slice none 0 0]) (blk_put (cs' := #[.int .i64 x.f0, .string x.f1, .int .u16 x.f2, .int .u16 x.f3, .int .u8 x.f4, .bool x.f5, .slice none 0 0, .int .i64 0, .int .i64 0, .int .i64 0, .slice none 0 0]) (blk_put (cs' := #[.int .i64 x.f0, .string x.f1, .int .u16 x.f2, .int .u16 x.f3, .int .u8 x.f4, .bool false, .slice none 0 0, .int .i64 0, .int .i64 0, .int .i64 0, .slice none 0 0]) (blk_put (cs' := #[.int .i64 x.f0, .string x.f1, .int .u16 x.f2, .int .u16 x.f3, .int .u8 0, .bool false, .slice none 0 0, .int .i64 0, .int .i64 0, .int .i64 0, .slice none 0 0]) (blk_put (cs' := #[.int .i64 x.f0, .string x.f1, .int .u16 x.f2, .int .u16 0, .int .u8 0, .bool false, .slice none 0 0, .int .i64 0, .int .i64 0, .int .i64 0, .slice none 0 0]) (blk_put (cs' := #[.int .i64 x.f0, .string x.f1, .int .u16 0, .int .u16 0, .int .u8 0, .bool false, .slice none 0 0, .int .i64 0, .int .i64 0, .int .i64 0, .slice none 0 0]) (blk_put (cs' := #[.int .i64 x.f0, .string ⟨#[]⟩, .int .u16 0, .int .u16 0, .int .u8 0, .bool false, .slice none 0 0, .int .i64 0, .int .i64 0, .int .i64 0, .slice none 0 0]) (HS5.out) 0 _ rfl) 1 _ rfl) 2 _ rfl) 3 _ rfl) 4 _ rfl) 5 _ rfl) 6 _ rfl) 7 _ rfl) 8 _ rfl) 9 _ rfl) 10 _ rfl)
      have HLK := Aside0.mk (show Lkd w5 w6 sb from hw6 ▸ (((((((((((Lkd.refl w5 sb).set 0 _).set 1 _).set 2 _).set 3 _).set 4 _).set 5 _).set 6 _).set 7 _).set 8 _).set 9 _).set 10 _)
      have HC6 := Aside0.mk (hvc.only HLK.out HS5.out (by decide) (by decide))
      have HZ6 := Aside0.mk ((HLK.out.blk gz (blk_ne HZ5.out HS5.out (by decide))).trans HZ5.out)
      have HT6 := Aside0.mk (R_only HT5.out HLK.out HS5.out (by decide))
      have HB6 := Aside0.mk (HB5.out.only HLK.out HSG.out)
      clear hw6 hvc p0 q0 p1 q1 p2 q2 p3 q3 p4 q4 p5 q5 p6 q6 p7 q7 p8 q8 p9 q9 p10 q10 x0 x1 x2 x3 x4 x5 x6 x7 x8 x9 x10 HB5 HS5 HC5 HZ5 HT5 HB4 HC4 HZ4 HT4
      go_upto_region 7 with ((with_reducible refine gate_dst (N := 7) rfl ?_); refine box_event ?hg (N := 7) ?hd (cs := #[.bool false, .int .i64 0, .string ⟨#[]⟩, .slice none 0 0, .slice none 0 0]) (t := 40) ?hr ?_; (case hd => rfl); (case hg => rfl); (case hr => first | (go_simp; done) | (go_simp; rfl)); intro tb htb w7 hbox hb; have HB7 := Aside0.mk (HB6.out.trans (Below.mono hb HB6.out.size)); have HTB7 := Aside0.mk hbox; have HC7 := Aside0.mk (HC6.out.below hb); have HZ7 := Aside0.mk (blk_below HZ6.out hb); have HS7 := Aside0.mk (blk_below HS6.out hb); have HT7 := Aside0.mk (show kTold.R 40 w7 w.heap.size (fun k => k < tb) u4 (tolds l i) from Kd.R_below (Kd.R_mono (Kd.R_bound HT6.out) (fun k hk => by rw [htb]; exact hk.2.2.1)) hb); have HTG := Aside0.mk (show w.heap.size ≤ tb by rw [htb]; exact HB6.out.size); clear hb htb hbox)
      clear HB6 HC6 HZ6 HS6 HT6
      have s0 := (blk_cell HS7.out 0).trans rfl
      have z0 := zcell HZ7.out
      by_cases e0 : x.f0 = 0
      · have d0 : (x.f0 == 0) = true := by simpa using e0
        have HTO := Aside0.mk (show toldOf s x = (⟨true, 0, ⟨#[]⟩, []⟩ : Told) from by rw [toldOf, if_pos e0])
        have hlen : x.f1.size ≤ 1000000000 := by
          rcases HF.out with ⟨_, _, h3⟩ | h3 | ⟨h3, _⟩
          · exact h3
          · omega
          · omega
        have HLEN := Aside0.mk (show x.f1.size ≤ 9223372036854775807 by omega)
        have y1 := (blk_cell HS7.out 1).trans rfl
        have y2 := (blk_cell HS7.out 2).trans rfl
        have y3 := (blk_cell HS7.out 3).trans rfl
        have y4 := (blk_cell HS7.out 4).trans rfl
        have y5 := (blk_cell HS7.out 5).trans rfl
        have t0 := (blk_cell HTB7.out 0).trans rfl
        have t1 := blk_frozen HTB7.out 0
        cases hdone : s.done with
        | false =>
          have hst : stepTo s x = ⟨s.its ++ [itemOf x], s.sz + x.f1.size, false⟩ := by rw [stepTo, if_pos e0, if_neg (by rw [hdone]; decide)]
          have HSTP := Aside0.mk hst
          have HQQ : Aside0 (s.its.length < 1000 ∧ x.f1.size ≤ 2000 ∧ ∀ k, k < s.its.length → ¬ ((s.its[k]?.getD ⟨0, false, 0, 0, []⟩).ep = x.f2 ∧ (s.its[k]?.getD ⟨0, false, 0, 0, []⟩).sq = x.f3 ∧ (s.its[k]?.getD ⟨0, false, 0, 0, []⟩).cl = x.f5)) := ⟨by
            rcases HF.out with ⟨_, h2, _⟩ | h3 | ⟨h3, _⟩
            · exact h2 hdone
            · omega
            · omega⟩
          have HSZ := Aside0.mk (show s.sz + (bytesOf x.f1).length ≤ 8000000 from by have := HIV.out.z1; have := HIV.out.n; have := HQQ.out.2.1; rw [bytesOf_length]; omega)
          rw [hdone] at HC7
          clear hst hdone hlen e0
          go_upto_region 35 with (first
            | ((with_reducible refine gate_dst (N := 34) rfl ?_); refine bytes_event rfl (N := 34) rfl 9 48 (.tmp 33) rfl x.f1 (by rfl) Tryz.underlying9 Tryz.underlying48 Tryz.underlying5 HLEN.out ?_; intro ad cd w8 hst hb; have HST8 := Aside0.mk hst; have HC8 := Aside0.mk (HC7.out.below hb); have HZ8 := Aside0.mk (blk_below HZ7.out hb); have HTB8 := Aside0.mk (blk_below HTB7.out hb); have HT8 := Aside0.mk (Kd.R_below HT7.out hb); have HB8 := Aside0.mk (HB7.out.trans (Below.mono hb HB7.out.size)); have HS8 := Aside0.mk (blk_below HS7.out hb); clear y1 y2 y3 y4 y5 t0 t1 z0 s0; have y2 := (blk_cell HS8.out 2).trans rfl; have y3 := (blk_cell HS8.out 3).trans rfl; have y4 := (blk_cell HS8.out 4).trans rfl; have y5 := (blk_cell HS8.out 5).trans rfl; clear hst hb)
            | (go_at_call 29; refine (zPush_calls h _ 0 0 x.f2 x.f3 x.f4 x.f5 w8 (fun e w' => (∃ v', Ca w' w.heap.size h v' (s.its ++ [itemOf x]) (s.sz + (bytesOf x.f1).length) false 0) ∧ TK w8 w' ∧ Below w.heap.size w8 w') (fun w1 hb1 => (push_calls w.heap.size h vc s.its s.sz ad cd (bytesOf x.f1) x.f2 x.f3 x.f4 x.f5 w1 (HC8.out.below hb1) (Nat.le_trans HB8.out.size hb1.size) (HST8.out.tk (TK.of_below hb1)) HQQ.out.2.2 HQQ.out.1 HIV.out.z0 HSZ.out).mono (fun e w' hx => ⟨hx.1, hx.2.1, (TK.of_below hb1).trans hx.2.2.1, (Below.mono hb1 HB8.out.size).trans hx.2.2.2⟩))).mono ?_; rintro e w85 ⟨rfl, ⟨v85, hc⟩, htk, hbb⟩; have HC85 := Aside0.mk hc; have HZ85 := Aside0.mk (htk.keep HZ8.out (by decide) (by decide)); have HTB85 := Aside0.mk (htk.keep HTB8.out (by decide) (by decide)); have HT85 := Aside0.mk (R_tk HT8.out htk (by decide)); have HB85 := Aside0.mk (HB8.out.trans hbb); have t0 := (blk_cell HTB85.out 0).trans rfl; have t1 := blk_frozen HTB85.out 0; clear hc htk hbb))
          obtain ⟨w9, hw9⟩ : ∃ w9, w9 = w85.setCell ⟨tb, 0, none⟩ (.bool true) := ⟨_, rfl⟩
          rw [← hw9]
          have HLK9 := Aside0.mk (show Lkd w85 w9 tb from hw9 ▸ (Lkd.refl w85 tb).set 0 _)
          have HTB9 := Aside0.mk (show w9.heap[tb]? = some (.cells #[.bool true, .int .i64 0, .string ⟨#[]⟩, .slice none 0 0, .slice none 0 0] 40 (0, 0)) from hw9 ▸ blk_put (cs' := #[.bool true, .int .i64 0, .string ⟨#[]⟩, .slice none 0 0, .slice none 0 0]) HTB85.out 0 _ rfl)
          have HC9 := Aside0.mk (HC85.out.only HLK9.out HTB85.out (by decide) (by decide))
          have HZ9 := Aside0.mk ((HLK9.out.blk gz (blk_ne HZ85.out HTB85.out (by decide))).trans HZ85.out)
          have HT9 := Aside0.mk (Kd.R_mono (Kd.R_move HT85.out (fun k hk => HLK9.out.blk k (Nat.ne_of_lt hk))) (fun _ _ => trivial))
          have HB9 := Aside0.mk (HB85.out.only HLK9.out HTG.out)
          clear hw9 t0 t1
          have HPV9 := Aside0.mk (Kd.R_nil kPd 71 w9 w.heap.size (fun _ => False))
          have HOK9 := Aside0.mk (show ∀ k : Nat, False → True ∧ some k ≠ u4.ownBlock from fun _ hk => hk.elim)
          have HTD := Aside0.mk (show tolds l (i + 1) = tolds l i ++ [(⟨true, 0, ⟨#[]⟩, []⟩ : Told)] from by rw [tolds, HSS.out, HXX.out]; exact congrArg (fun z => tolds l i ++ [z]) HTO.out)
          have HRN := Aside0.mk (show runTo l (i + 1) = stepTo s x from by rw [runTo, HSS.out, HXX.out])
          have b0 := (blk_cell HTB9.out 0).trans rfl
          have b1 := (blk_cell HTB9.out 1).trans rfl
          have b2 := (blk_cell HTB9.out 2).trans rfl
          have b3 := (blk_cell HTB9.out 3).trans rfl
          have b4 := (blk_cell HTB9.out 4).trans rfl
          have HLL := Aside0.mk (show ((tolds l i).length + 1) * 80 ≤ 140737488355328 by rw [tolds_length]; omega)
          go_wp2_with ((with_reducible refine gate_dst (N := 159) rfl ?_); refine Kd.R_append kTold (w0 := w) w.heap.size rfl (.tmp 156) (.tmp 158) 33 40 (.agg #[.bool false, .int .i64 0, .string ⟨#[]⟩, .slice none 0 0, .slice none 0 0]) 80 rfl Tryz.underlying33 info_told rfl (by decide) (by omega) u4 (tolds l i) ((⟨true, 0, ⟨#[]⟩, []⟩ : Told) : Told) [.bool true, .int .i64 0, .string ⟨#[]⟩, .slice none 0 0, .slice none 0 0] (fun _ => True) (fun _ => False) rfl rfl (kTold_mkM ((⟨true, 0, ⟨#[]⟩, []⟩ : Told) : Told) HPV9.out) HOK9.out (fun _ _ => trivial) HT9.out HB9.out HB9.out.size HLL.out ?_; intro v10 w10 ho hb hg hat; have HT10 := Aside0.mk ho; have HB10 := Aside0.mk hb; have HZ10 := Aside0.mk (blk_grown HZ9.out hg (Kd.R_ne HT9.out HZ9.out (by decide))); have HC10 := Aside0.mk (HC9.out.grownTy HT9.out hg (by decide) (by decide)); clear ho hb hg hat b0 b1 b2 b3 b4)
          go_roundg (l.length - (i + 1))
          case measure => have := HG.out; omega
          case rel => exact ⟨i + 1, by go_num, ⟨rfl⟩, ⟨by omega⟩, HB10, ⟨by rw [HRN.out, HSTP.out]; exact ⟨_, by simpa [bytesOf_length] using HC10.out⟩⟩, HZ10, ⟨by rw [HTD.out]; exact HT10.out⟩, ⟨by rw [HRN.out]; exact HIV.out.step HF.out⟩⟩
        | true =>
          have hst : stepTo s x = s := by rw [stepTo, if_pos e0, if_pos hdone]
          have HSTP := Aside0.mk hst
          rw [hdone] at HC7
          have HDN := Aside0.mk hdone
          clear hst hdone hlen e0
          go_upto_region 35 with (first
            | ((with_reducible refine gate_dst (N := 34) rfl ?_); refine bytes_event rfl (N := 34) rfl 9 48 (.tmp 33) rfl x.f1 (by rfl) Tryz.underlying9 Tryz.underlying48 Tryz.underlying5 HLEN.out ?_; intro ad cd w8 hst hb; have HST8 := Aside0.mk hst; have HC8 := Aside0.mk (HC7.out.below hb); have HZ8 := Aside0.mk (blk_below HZ7.out hb); have HTB8 := Aside0.mk (blk_below HTB7.out hb); have HT8 := Aside0.mk (Kd.R_below HT7.out hb); have HB8 := Aside0.mk (HB7.out.trans (Below.mono hb HB7.out.size)); have HS8 := Aside0.mk (blk_below HS7.out hb); clear y1 y2 y3 y4 y5 t0 t1 z0 s0; have y2 := (blk_cell HS8.out 2).trans rfl; have y3 := (blk_cell HS8.out 3).trans rfl; have y4 := (blk_cell HS8.out 4).trans rfl; have y5 := (blk_cell HS8.out 5).trans rfl; clear hst hb)
            | (go_at_call 29; refine (zPush_calls h _ 0 0 x.f2 x.f3 x.f4 x.f5 w8 (fun e w' => Below w8.heap.size w8 w') (fun w1 hb1 => (push_done w.heap.size h vc s.its s.sz (some ad) (bytesOf x.f1).length cd x.f2 x.f3 x.f4 x.f5 w1 (HC8.out.below hb1)).mono (fun e w' hx => ⟨hx.1, hb1.trans (Below.mono hx.2 hb1.size)⟩))).mono ?_; rintro e w85 ⟨rfl, hb⟩; have HC85 := Aside0.mk (HC8.out.below hb); have HZ85 := Aside0.mk (blk_below HZ8.out hb); have HTB85 := Aside0.mk (blk_below HTB8.out hb); have HT85 := Aside0.mk (Kd.R_below HT8.out hb); have HB85 := Aside0.mk (HB8.out.trans (Below.mono hb HB8.out.size)); have t0 := (blk_cell HTB85.out 0).trans rfl; have t1 := blk_frozen HTB85.out 0; clear hb))
          obtain ⟨w9, hw9⟩ : ∃ w9, w9 = w85.setCell ⟨tb, 0, none⟩ (.bool true) := ⟨_, rfl⟩
          rw [← hw9]
          have HLK9 := Aside0.mk (show Lkd w85 w9 tb from hw9 ▸ (Lkd.refl w85 tb).set 0 _)
          have HTB9 := Aside0.mk (show w9.heap[tb]? = some (.cells #[.bool true, .int .i64 0, .string ⟨#[]⟩, .slice none 0 0, .slice none 0 0] 40 (0, 0)) from hw9 ▸ blk_put (cs' := #[.bool true, .int .i64 0, .string ⟨#[]⟩, .slice none 0 0, .slice none 0 0]) HTB85.out 0 _ rfl)
          have HC9 := Aside0.mk (HC85.out.only HLK9.out HTB85.out (by decide) (by decide))
          have HZ9 := Aside0.mk ((HLK9.out.blk gz (blk_ne HZ85.out HTB85.out (by decide))).trans HZ85.out)
          have HT9 := Aside0.mk (Kd.R_mono (Kd.R_move HT85.out (fun k hk => HLK9.out.blk k (Nat.ne_of_lt hk))) (fun _ _ => trivial))
          have HB9 := Aside0.mk (HB85.out.only HLK9.out HTG.out)
          clear hw9 t0 t1
          have HPV9 := Aside0.mk (Kd.R_nil kPd 71 w9 w.heap.size (fun _ => False))
          have HOK9 := Aside0.mk (show ∀ k : Nat, False → True ∧ some k ≠ u4.ownBlock from fun _ hk => hk.elim)
          have HTD := Aside0.mk (show tolds l (i + 1) = tolds l i ++ [(⟨true, 0, ⟨#[]⟩, []⟩ : Told)] from by rw [tolds, HSS.out, HXX.out]; exact congrArg (fun z => tolds l i ++ [z]) HTO.out)
          have HRN := Aside0.mk (show runTo l (i + 1) = stepTo s x from by rw [runTo, HSS.out, HXX.out])
          have b0 := (blk_cell HTB9.out 0).trans rfl
          have b1 := (blk_cell HTB9.out 1).trans rfl
          have b2 := (blk_cell HTB9.out 2).trans rfl
          have b3 := (blk_cell HTB9.out 3).trans rfl
          have b4 := (blk_cell HTB9.out 4).trans rfl
          have HLL := Aside0.mk (show ((tolds l i).length + 1) * 80 ≤ 140737488355328 by rw [tolds_length]; omega)
          go_wp2_with ((with_reducible refine gate_dst (N := 159) rfl ?_); refine Kd.R_append kTold (w0 := w) w.heap.size rfl (.tmp 156) (.tmp 158) 33 40 (.agg #[.bool false, .int .i64 0, .string ⟨#[]⟩, .slice none 0 0, .slice none 0 0]) 80 rfl Tryz.underlying33 info_told rfl (by decide) (by omega) u4 (tolds l i) ((⟨true, 0, ⟨#[]⟩, []⟩ : Told) : Told) [.bool true, .int .i64 0, .string ⟨#[]⟩, .slice none 0 0, .slice none 0 0] (fun _ => True) (fun _ => False) rfl rfl (kTold_mkM ((⟨true, 0, ⟨#[]⟩, []⟩ : Told) : Told) HPV9.out) HOK9.out (fun _ _ => trivial) HT9.out HB9.out HB9.out.size HLL.out ?_; intro v10 w10 ho hb hg hat; have HT10 := Aside0.mk ho; have HB10 := Aside0.mk hb; have HZ10 := Aside0.mk (blk_grown HZ9.out hg (Kd.R_ne HT9.out HZ9.out (by decide))); have HC10 := Aside0.mk (HC9.out.grownTy HT9.out hg (by decide) (by decide)); clear ho hb hg hat b0 b1 b2 b3 b4)
          go_roundg (l.length - (i + 1))
          case measure => have := HG.out; omega
          case rel => exact ⟨i + 1, by go_num, ⟨rfl⟩, ⟨by omega⟩, HB10, ⟨by rw [HRN.out, HSTP.out]; exact ⟨_, by rw [HDN.out]; exact HC10.out⟩⟩, HZ10, ⟨by rw [HTD.out]; exact HT10.out⟩, ⟨by rw [HRN.out]; exact HIV.out.step HF.out⟩⟩
      · have d0 : (x.f0 == 0) = false := by simpa using e0
        by_cases e1 : x.f0 = 1
        · have d1 : (x.f0 == 1) = true := by simpa using e1
          have HTO := Aside0.mk (show toldOf s x = (⟨false, 0, ⟨#[]⟩, []⟩ : Told) from by rw [toldOf, if_neg e0, if_pos e1]; rfl)
          have HSTP := Aside0.mk (show stepTo s x = ⟨s.its, s.sz, true⟩ from by rw [stepTo, if_neg e0, if_pos e1])
          clear e0 e1
          go_upto_region 35 with (go_at_call 30; refine (zFinish_calls h w7 (fun e w' => Ca w' w.heap.size h vc s.its s.sz true 0 ∧ TK w7 w' ∧ Below w.heap.size w7 w') (fun w1 hb1 => (finish_calls w.heap.size h vc s.its s.sz s.done w1 (HC7.out.below hb1)).mono (fun e w' hx => ⟨hx.1, hx.2.1, (TK.of_below hb1).trans hx.2.2.1, (Below.mono hb1 HB7.out.size).trans hx.2.2.2⟩))).mono ?_; rintro e w9 ⟨rfl, hc, htk, hbb⟩; have HC9 := Aside0.mk hc; have HZ9 := Aside0.mk (htk.keep HZ7.out (by decide) (by decide)); have HTB9 := Aside0.mk (htk.keep HTB7.out (by decide) (by decide)); have HT9 := Aside0.mk (Kd.R_mono (R_tk HT7.out htk (by decide)) (fun _ _ => trivial)); have HB9 := Aside0.mk (HB7.out.trans hbb); clear hc htk hbb)
          have HPV9 := Aside0.mk (Kd.R_nil kPd 71 w9 w.heap.size (fun _ => False))
          have HOK9 := Aside0.mk (show ∀ k : Nat, False → True ∧ some k ≠ u4.ownBlock from fun _ hk => hk.elim)
          have HTD := Aside0.mk (show tolds l (i + 1) = tolds l i ++ [(⟨false, 0, ⟨#[]⟩, []⟩ : Told)] from by rw [tolds, HSS.out, HXX.out]; exact congrArg (fun z => tolds l i ++ [z]) HTO.out)
          have HRN := Aside0.mk (show runTo l (i + 1) = stepTo s x from by rw [runTo, HSS.out, HXX.out])
          have b0 := (blk_cell HTB9.out 0).trans rfl
          have b1 := (blk_cell HTB9.out 1).trans rfl
          have b2 := (blk_cell HTB9.out 2).trans rfl
          have b3 := (blk_cell HTB9.out 3).trans rfl
          have b4 := (blk_cell HTB9.out 4).trans rfl
          have HLL := Aside0.mk (show ((tolds l i).length + 1) * 80 ≤ 140737488355328 by rw [tolds_length]; omega)
          go_wp2_with ((with_reducible refine gate_dst (N := 159) rfl ?_); refine Kd.R_append kTold (w0 := w) w.heap.size rfl (.tmp 156) (.tmp 158) 33 40 (.agg #[.bool false, .int .i64 0, .string ⟨#[]⟩, .slice none 0 0, .slice none 0 0]) 80 rfl Tryz.underlying33 info_told rfl (by decide) (by omega) u4 (tolds l i) ((⟨false, 0, ⟨#[]⟩, []⟩ : Told) : Told) [.bool false, .int .i64 0, .string ⟨#[]⟩, .slice none 0 0, .slice none 0 0] (fun _ => True) (fun _ => False) rfl rfl (kTold_mkM ((⟨false, 0, ⟨#[]⟩, []⟩ : Told) : Told) HPV9.out) HOK9.out (fun _ _ => trivial) HT9.out HB9.out HB9.out.size HLL.out ?_; intro v10 w10 ho hb hg hat; have HT10 := Aside0.mk ho; have HB10 := Aside0.mk hb; have HZ10 := Aside0.mk (blk_grown HZ9.out hg (Kd.R_ne HT9.out HZ9.out (by decide))); have HC10 := Aside0.mk (HC9.out.grownTy HT9.out hg (by decide) (by decide)); clear ho hb hg hat b0 b1 b2 b3 b4)
          go_roundg (l.length - (i + 1))
          case measure => have := HG.out; omega
          case rel => exact ⟨i + 1, by go_num, ⟨rfl⟩, ⟨by omega⟩, HB10, ⟨by rw [HRN.out, HSTP.out]; exact ⟨_, HC10.out⟩⟩, HZ10, ⟨by rw [HTD.out]; exact HT10.out⟩, ⟨by rw [HRN.out]; exact HIV.out.step HF.out⟩⟩
        · have d1 : (x.f0 == 1) = false := by simpa using e1
          by_cases e2 : x.f0 = 2
          · have d2 : (x.f0 == 2) = true := by simpa using e2
            have HRL : Aside0 (x.f6.length < 1000) := ⟨by
              rcases HF.out with ⟨h3, _⟩ | h3 | ⟨_, h3⟩
              · exact absurd h3 e0
              · exact absurd h3 e1
              · exact h3⟩
            have HTO := Aside0.mk (show toldOf s x = (⟨false, 0, ⟨#[]⟩, (rulesOf x.f6).map (pdOf s.its)⟩ : Told) from by rw [toldOf, if_neg e0, if_neg e1, if_pos e2])
            have HSTP := Aside0.mk (show stepTo s x = s from by rw [stepTo, if_neg e0, if_neg e1])
            clear e0 e1 e2
            have hur := Tryz.underlying96
            have hup := Tryz.underlying71
            have y6 := (blk_cell HS7.out 6).trans rfl
            go_wp2_with (go_at_call 31; refine (impl_rules.calls (x.f6.length + 1) A6 c6 x.f6 (rulesOf x.f6) _ (Kd.C_below HXR.out.2.1 HB7.out) HXR.out.1 (irules_f x.f6 (by have := HRL.out; omega))).mono ?_; rintro e w8 ⟨rv, rfl, hrr, hb⟩; have HB8 := Aside0.mk (HB7.out.trans (Below.mono hb HB7.out.size)); have HC8 := Aside0.mk (HC7.out.below hb); have HZ8 := Aside0.mk (blk_below HZ7.out hb); have HTB8 := Aside0.mk (blk_below HTB7.out hb); have HT8 := Aside0.mk (Kd.R_below HT7.out hb); have HRR8 := Aside0.mk (show kRl.R 96 w8 w.heap.size (fun k => k < w8.heap.size) rv (rulesOf x.f6) from Kd.R_lower (Kd.R_mono (Kd.R_bound hrr) (fun k hk => hk.2.2.1)) HB7.out.size); obtain ⟨rA, rc, rfl⟩ := Kd.R_slice hrr; clear hb hrr s0 z0 y6)
            clear HC7 HZ7 HS7 HTB7 HT7 HB7
            have HTL := Aside0.mk (blk_lt HTB8.out)
            have hrn : (rulesOf x.f6).length < 1000 := by rw [rulesOf_length]; exact HRL.out
            obtain ⟨n8, hn8⟩ : ∃ n8, n8 = w8.heap.size := ⟨_, rfl⟩
            have HN8 := Aside0.mk hn8
            rw [← hn8] at HRR8 HTL
            clear hn8
            generalize hrs : rulesOf x.f6 = rs at *
            clear hrs
            go_loopg [56] rs.length (fun gk2 v56 w' => ∃ (j : Nat) (pv : Value), v56 = .int .i64 j ∧ Aside0 (gk2 = rs.length - j) ∧ Aside0 (j ≤ rs.length) ∧ Aside0 (Below w.heap.size w w') ∧ Aside0 (n8 ≤ w'.heap.size) ∧ Aside0 (Ca w' w.heap.size h vc s.its s.sz s.done 0) ∧ Aside0 (w'.heap[gz]? = some (.cells #[.pointer (some ⟨h, 0, none⟩)] 87 (0, 0))) ∧
              Aside0 (w'.heap[tb]? = some (.cells #[.bool false, .int .i64 0, .string ⟨#[]⟩, pv, .slice none 0 0] 40 (0, 0))) ∧ Aside0 (kPd.R 71 w' w.heap.size (fun k => n8 ≤ k) pv ((rs.take j).map (pdOf s.its))) ∧ Aside0 (kTold.R 40 w' w.heap.size (fun k => k < tb) u4 (tolds l i)) ∧ Aside0 (kRl.R 96 w' w.heap.size (fun k => k < n8) (.slice rA rs.length rc) rs))
            case atStart => exact ⟨0, .slice none 0 0, rfl, ⟨by omega⟩, ⟨by omega⟩, HB8, ⟨by rw [HN8.out]; exact Nat.le_refl _⟩, HC8, HZ8, HTB8, ⟨by simpa using Kd.R_nil kPd 71 w8 w.heap.size (fun k => n8 ≤ k)⟩, HT8, HRR8⟩
            case round =>
              obtain ⟨j, pv, rfl, HG2, HJ, HBd, HNd, HCd, HZd, HTBd, HPVd, HTd, HRRd⟩ := hrel
              clear HB8 HC8 HZ8 HTB8 HT8 HRR8 HN8
              by_cases hjl : j < rs.length
              · have hjlb : decide ((j : Int) < (rs.length : Int)) = true := decide_eq_true (by omega)
                have j0 : (0 : Int) ≤ (j : Int) := by omega
                have j1 : (j : Int) < (rs.length : Int) := by omega
                obtain ⟨rad, rfl, r0, r1, r2, r3⟩ := at_T96 (Kd.R_reads' HRRd.out).2.2 (j : Int) j0 j1
                have hrd : rd_T96 rs (j : Int) = rs.getD j z96 := by simp [rd_T96]
                rw [hrd] at r0 r1 r2 r3
                simp only [Int.toNat_natCast] at r0 r1 r2 r3
                have htk : rs.take (j + 1) = rs.take j ++ [rs.getD j z96] := by rw [List.take_succ_eq_append_getElem hjl]; simp [hjl]
                clear hrd
                generalize rs.getD j z96 = r at *
                have HTK := Aside0.mk (show (rs.take (j + 1)).map (pdOf s.its) = (rs.take j).map (pdOf s.its) ++ [pdOf s.its r] by rw [htk, List.map_append]; rfl)
                clear htk
                have j0t := eq_true j0
                have j1t := eq_true j1
                go_upto_region 16 with ((with_reducible refine gate_dst (N := 9) rfl ?_); refine box_event ?hg (N := 9) ?hd (cs := #[.int .u8 0, .int .u16 0, .bool false, .bool false]) (t := 96) ?hr ?_; (case hd => rfl); (case hg => rfl); (case hr => first | (go_simp; done) | (go_simp; rfl)); intro rb hrb wa hbox hb; have HBa := Aside0.mk (HBd.out.trans (Below.mono hb HBd.out.size)); have HNa := Aside0.mk (Nat.le_trans HNd.out hb.size); have HCa := Aside0.mk (HCd.out.below hb); have HZa := Aside0.mk (blk_below HZd.out hb); have HTBa := Aside0.mk (blk_below HTBd.out hb); have HPVa := Aside0.mk (Kd.R_below HPVd.out hb); have HTa := Aside0.mk (Kd.R_below HTd.out hb); have HRRa := Aside0.mk (Kd.R_below HRRd.out hb); have HXa := Aside0.mk hbox; have HRG := Aside0.mk (show n8 ≤ rb by rw [hrb]; exact HNd.out); have HRW := Aside0.mk (show w.heap.size ≤ rb by rw [hrb]; exact HBd.out.size); have k0 := (blk_cell hbox 0).trans rfl; have k1 := (blk_cell hbox 1).trans rfl; have k2 := (blk_cell hbox 2).trans rfl; have k3 := (blk_cell hbox 3).trans rfl; have l0 := blk_frozen hbox 0; have l1 := blk_frozen hbox 1; have l2 := blk_frozen hbox 2; have l3 := blk_frozen hbox 3; clear hb hrb hbox)
                obtain ⟨wb, hwb⟩ : ∃ wb, wb = (((wa.setCell ⟨rb, 0, none⟩ (.int .u8 r.f0)).setCell ⟨rb, 1, none⟩ (.int .u16 r.f1)).setCell ⟨rb, 2, none⟩ (.bool r.f2)).setCell ⟨rb, 3, none⟩ (.bool r.f3) := ⟨_, rfl⟩
                rw [← hwb]
                have HLb := Aside0.mk (show Lkd wa wb rb from hwb ▸ ((((Lkd.refl wa rb).set 0 _).set 1 _).set 2 _).set 3 _)
                have HXb := Aside0.mk (show wb.heap[rb]? = some (.cells #[.int .u8 r.f0, .int .u16 r.f1, .bool r.f2, .bool r.f3] 96 (0, 0)) from hwb ▸ blk_put (cs' := #[.int .u8 r.f0, .int .u16 r.f1, .bool r.f2, .bool r.f3]) (blk_put (cs' := #[.int .u8 r.f0, .int .u16 r.f1, .bool r.f2, .bool false]) (blk_put (cs' := #[.int .u8 r.f0, .int .u16 r.f1, .bool false, .bool false]) (blk_put (cs' := #[.int .u8 r.f0, .int .u16 0, .bool false, .bool false]) HXa.out 0 _ rfl) 1 _ rfl) 2 _ rfl) 3 _ rfl)
                have HBb := Aside0.mk (HBa.out.only HLb.out HRW.out)
                have HNb := Aside0.mk (show n8 ≤ wb.heap.size by rw [HLb.out.size]; exact HNa.out)
                have HCb := Aside0.mk (HCa.out.only HLb.out HXa.out (by decide) (by decide))
                have HZb := Aside0.mk ((HLb.out.blk gz (blk_ne HZa.out HXa.out (by decide))).trans HZa.out)
                have HTBb := Aside0.mk ((HLb.out.blk tb (blk_ne HTBa.out HXa.out (by decide))).trans HTBa.out)
                have HPVb := Aside0.mk (R_only HPVa.out HLb.out HXa.out (by decide))
                have HTb := Aside0.mk (R_only HTa.out HLb.out HXa.out (by decide))
                have HRRb := Aside0.mk (Kd.R_move HRRa.out (fun k hk => HLb.out.blk k (fun e => by have := HRG.out; omega)))
                clear hwb k0 k1 k2 k3 l0 l1 l2 l3 r0 r1 r2 r3 HLb HXa HBa HNa HCa HZa HTBa HPVa HTa HRRa HBd HNd HCd HZd HTBd HPVd HTd HRRd
                have z0 := zcell HZb.out
                have k0 := (blk_cell HXb.out 0).trans rfl
                have k1 := (blk_cell HXb.out 1).trans rfl
                have k2 := (blk_cell HXb.out 2).trans rfl
                have k3 := (blk_cell HXb.out 3).trans rfl
                have HI2 := Aside0.mk (show s.its.length < 1000000 by have := HIV.out.n; omega)
                go_upto_region 17 with (go_at_call 32; refine (zPulled_calls w.heap.size h vc s.its s.sz s.done r wb HCb.out HBb.out.size HI2.out).mono ?_; rintro e wc ⟨pA, pc, bs, rfl, hbs, hcs, hb⟩; have HBc := Aside0.mk (HBb.out.trans (Below.mono hb HBb.out.size)); have HNc := Aside0.mk (Nat.le_trans HNb.out hb.size); have HCc := Aside0.mk (HCb.out.below hb); have HZc := Aside0.mk (blk_below HZb.out hb); have HTBc := Aside0.mk (blk_below HTBb.out hb); have HPVc := Aside0.mk (Kd.R_below HPVb.out hb); have HTc := Aside0.mk (Kd.R_below HTb.out hb); have HRRc := Aside0.mk (Kd.R_below HRRb.out hb); have hcv := Kd.C_string (P := Tryz.prog) (A := pA) (c := pc) Tryz.underlying48 Tryz.underlying5 Tryz.underlying9 hcs; rw [hbs] at hcv; clear hb hbs hcs z0 k0 k1 k2 k3)
                clear HBb HNb HCb HZb HTBb HPVb HTb HRRb HXb
                have b3 := (blk_cell HTBc.out 3).trans rfl
                have HLL := Aside0.mk (show (((rs.take j).map (pdOf s.its)).length + 1) * 24 ≤ 140737488355328 by simp; omega)
                go_upto_region 18 with ((with_reducible refine gate_dst (N := 77) rfl ?_); refine Kd.R_append kPd (w0 := w) w.heap.size rfl (.tmp 69) (.tmp 76) 37 71 (.agg #[.bool false, .int .u16 0, .int .u16 0, .string ⟨#[]⟩]) 24 rfl Tryz.underlying37 info_pulled rfl (by decide) (by omega) pv ((rs.take j).map (pdOf s.its)) (pdOf s.its r) [.bool (pdOf s.its r).has, .int .u16 (pdOf s.its r).ep, .int .u16 (pdOf s.its r).sq, .string (pdOf s.its r).dat] (fun k => n8 ≤ k) (fun _ => False) rfl rfl (kPd_mkM _ _ _ _) (fun _ hk => hk.elim) (fun k hk => Nat.le_trans HNc.out hk) HPVc.out HBc.out HBc.out.size HLL.out ?_; intro pv2 wd ho hb hg hat; obtain ⟨pA2, pm2, pc2, rfl⟩ : ∃ A m c, pv2 = Value.slice A m c := (by obtain ⟨A, c, e⟩ := Kd.R_slice ho; exact ⟨A, _, c, e⟩); have HBe := Aside0.mk hb; have HNe := Aside0.mk (Nat.le_trans HNc.out hg.size); have HPVe := Aside0.mk ho; have HCe := Aside0.mk (HCc.out.grownTy HPVc.out hg (by decide) (by decide)); have HZe := Aside0.mk (blk_grown HZc.out hg (Kd.R_ne HPVc.out HZc.out (by decide))); have HTBe := Aside0.mk (blk_grown HTBc.out hg (Kd.R_ne HPVc.out HTBc.out (by decide))); have HTe := Aside0.mk (Kd.R_grown HTc.out hg (fun k hk e => by have h5 := HPVc.out.1 k e.symm; have := HTL.out; omega)); have HRRe := Aside0.mk (R_grownTy HRRc.out HPVc.out hg (by decide)); clear ho hb hg hat b3; have m0 := (blk_cell HTBe.out 3).trans rfl; have m1 := blk_frozen HTBe.out 3)
                obtain ⟨we, hwe⟩ : ∃ we, we = wd.setCell ⟨tb, 3, none⟩ (.slice pA2 pm2 pc2) := ⟨_, rfl⟩
                rw [← hwe]
                have HLe := Aside0.mk (show Lkd wd we tb from hwe ▸ (Lkd.refl wd tb).set 3 _)
                have HTBf := Aside0.mk (show we.heap[tb]? = some (.cells #[.bool false, .int .i64 0, .string ⟨#[]⟩, (.slice pA2 pm2 pc2), .slice none 0 0] 40 (0, 0)) from hwe ▸ blk_put (cs' := #[.bool false, .int .i64 0, .string ⟨#[]⟩, (.slice pA2 pm2 pc2), .slice none 0 0]) HTBe.out 3 _ rfl)
                have HBf := Aside0.mk (HBe.out.only HLe.out HTG.out)
                have HNf := Aside0.mk (show n8 ≤ we.heap.size by rw [HLe.out.size]; exact HNe.out)
                have HCf := Aside0.mk (HCe.out.only HLe.out HTBe.out (by decide) (by decide))
                have HZf := Aside0.mk ((HLe.out.blk gz (blk_ne HZe.out HTBe.out (by decide))).trans HZe.out)
                have HPVf := Aside0.mk (R_only HPVe.out HLe.out HTBe.out (by decide))
                have HTf := Aside0.mk (Kd.R_move HTe.out (fun k hk => HLe.out.blk k (Nat.ne_of_lt hk)))
                have HRRf := Aside0.mk (R_only HRRe.out HLe.out HTBe.out (by decide))
                clear hwe m0 m1
                go_wp2
                go_roundg (rs.length - (j + 1))
                case measure => have := HG2.out; omega
                case rel => exact ⟨j + 1, (.slice pA2 pm2 pc2), by go_num, ⟨rfl⟩, ⟨by omega⟩, HBf, HNf, HCf, HZf, HTBf, ⟨by rw [HTK.out]; exact HPVf.out⟩, HTf, HRRf⟩
              · have hjlb : decide ((j : Int) < (rs.length : Int)) = false := decide_eq_false (by omega)
                have hje : j = rs.length := by have := HJ.out; omega
                subst hje
                rw [List.take_length] at HPVd
                generalize wr = w9 at *
                have HC9 := HCd
                have HZ9 := HZd
                have HTB9 := HTBd
                have HB9 := HBd
                have HT9 := Aside0.mk (Kd.R_mono HTd.out (fun _ _ => trivial))
                have HPV9 := HPVd
                have HOK9 := Aside0.mk (show ∀ k : Nat, n8 ≤ k → True ∧ some k ≠ u4.ownBlock from fun k hk => ⟨trivial, fun e => by have h5 := HTd.out.1 k e.symm; have := HTL.out; omega⟩)
                have HTD := Aside0.mk (show tolds l (i + 1) = tolds l i ++ [(⟨false, 0, ⟨#[]⟩, rs.map (pdOf s.its)⟩ : Told)] from by rw [tolds, HSS.out, HXX.out]; exact congrArg (fun z => tolds l i ++ [z]) HTO.out)
                have HRN := Aside0.mk (show runTo l (i + 1) = stepTo s x from by rw [runTo, HSS.out, HXX.out])
                have b0 := (blk_cell HTB9.out 0).trans rfl
                have b1 := (blk_cell HTB9.out 1).trans rfl
                have b2 := (blk_cell HTB9.out 2).trans rfl
                have b3 := (blk_cell HTB9.out 3).trans rfl
                have b4 := (blk_cell HTB9.out 4).trans rfl
                have HLL := Aside0.mk (show ((tolds l i).length + 1) * 80 ≤ 140737488355328 by rw [tolds_length]; omega)
                go_wp2_with ((with_reducible refine gate_dst (N := 159) rfl ?_); refine Kd.R_append kTold (w0 := w) w.heap.size rfl (.tmp 156) (.tmp 158) 33 40 (.agg #[.bool false, .int .i64 0, .string ⟨#[]⟩, .slice none 0 0, .slice none 0 0]) 80 rfl Tryz.underlying33 info_told rfl (by decide) (by omega) u4 (tolds l i) ((⟨false, 0, ⟨#[]⟩, rs.map (pdOf s.its)⟩ : Told) : Told) [.bool false, .int .i64 0, .string ⟨#[]⟩, pv, .slice none 0 0] (fun _ => True) (fun k => n8 ≤ k) rfl rfl (kTold_mkM ((⟨false, 0, ⟨#[]⟩, rs.map (pdOf s.its)⟩ : Told) : Told) HPV9.out) HOK9.out (fun _ _ => trivial) HT9.out HB9.out HB9.out.size HLL.out ?_; intro v10 w10 ho hb hg hat; have HT10 := Aside0.mk ho; have HB10 := Aside0.mk hb; have HZ10 := Aside0.mk (blk_grown HZ9.out hg (Kd.R_ne HT9.out HZ9.out (by decide))); have HC10 := Aside0.mk (HC9.out.grownTy HT9.out hg (by decide) (by decide)); clear ho hb hg hat b0 b1 b2 b3 b4)
                go_roundg (l.length - (i + 1))
                case measure => have := HG.out; omega
                case rel => exact ⟨i + 1, by go_num, ⟨rfl⟩, ⟨by omega⟩, HB10, ⟨by rw [HRN.out, HSTP.out]; exact ⟨_, HC10.out⟩⟩, HZ10, ⟨by rw [HTD.out]; exact HT10.out⟩, ⟨by rw [HRN.out]; exact HIV.out.step HF.out⟩⟩
          · have d2 : (x.f0 == 2) = false := by simpa using e2
            have e3 : x.f0 = 3 := by
              rcases HF.out with ⟨h3, _⟩ | h3 | ⟨h3, _⟩
              · exact absurd h3 e0
              · exact absurd h3 e1
              · omega
            have HRL : Aside0 (x.f6.length < 1000) := ⟨by
              rcases HF.out with ⟨h3, _⟩ | h3 | ⟨_, h3⟩
              · exact absurd h3 e0
              · exact absurd h3 e1
              · exact h3⟩
            have d3 : (x.f0 == 3) = true := by simpa using e3
            have HTO := Aside0.mk (show toldOf s x = (⟨false, 0, strOfNums (mergeTo s.its (rulesOf x.f6) x.f6.length), []⟩ : Told) from by rw [toldOf, if_neg e0, if_neg e1, if_neg e2])
            have HSTP := Aside0.mk (show stepTo s x = s from by rw [stepTo, if_neg e0, if_neg e1])
            clear e0 e1 e2 e3
            go_upto_region 20 with (fail)
            clear s0 z0
            have HC8 := Aside0.mk HC7.out.drew
            have HZ8 := Aside0.mk (blk_drew HZ7.out)
            have HS8 := Aside0.mk (blk_drew HS7.out)
            have HTB8 := Aside0.mk (blk_drew HTB7.out)
            have HT8 := Aside0.mk (Kd.R_drew HT7.out)
            have HB8 := Aside0.mk (below_drew HB7.out)
            refine wp_region_noPanic ?_
            refine start_ (n := 8) (S := fun w' => w'.cell? ⟨gz, 0, none⟩ = some (.pointer (some ⟨h, 0, none⟩)) ∧ w'.cell? ⟨sb, 6, none⟩ = some (.slice A6 x.f6.length c6)) (ds := [7]) #[false, false, false, false, false, false, false, false] (by kernel_rfl) rfl rfl ⟨zcell HZ8.out, (blk_cell HS8.out 6).trans rfl⟩ (fun hHeld => ?_)
            clear HC7 HZ7 HS7 HTB7 HT7 HB7
            generalize w7.drew = w8 at *
            refine take_ (i := 0) (N := (some 82)) (v := ?_) (a' := ?_) #[true, false, false, false, false, false, false, false] rfl rfl (by kernel_rfl) (fun _ _ _ h => h.elim) (Or.inl ⟨by rfl, ?_⟩) hHeld ?_ ?_
            rotate_left
            · intro w' s0; obtain ⟨s1, s2⟩ := s0
              go_simp
              with_reducible rfl
            rotate_left
            · simp only [Act.put, List.setIfInBounds_toArray, List.set_cons_zero, List.set_cons_succ, i64_w, i32_w]
              rfl
            refine pure_ (i := 1) (N := (some 83)) (v := ?_) (a' := ?_) #[true, true, false, false, false, false, false, false] rfl rfl (by kernel_rfl) (fun _ _ _ h => h.elim) (Or.inl ⟨by rfl, ?_⟩) ?_ ?_
            rotate_left
            · intro w'
              go_simp
              with_reducible rfl
            rotate_left
            · simp only [Act.put, List.setIfInBounds_toArray, List.set_cons_zero, List.set_cons_succ, i64_w, i32_w]
              rfl
            refine take_ (i := 2) (N := (some 84)) (v := ?_) (a' := ?_) #[true, true, true, false, false, false, false, false] rfl rfl (by kernel_rfl) (fun _ _ _ h => h.elim) (Or.inl ⟨by rfl, ?_⟩) hHeld ?_ ?_
            rotate_left
            · intro w' s0; obtain ⟨s1, s2⟩ := s0
              go_simp
              with_reducible rfl
            rotate_left
            · simp only [Act.put, List.setIfInBounds_toArray, List.set_cons_zero, List.set_cons_succ, i64_w, i32_w]
              rfl
            refine one_ (i := 3) (N := (some 85)) #[true, true, true, true, false, false, false, false] rfl rfl (by kernel_rfl) (by decide) (fun K hK => ?_)
            refine goes_ Tryz.func31 (by kernel_rfl) rfl #[.slice A6 x.f6.length c6] (by rfl) rfl rfl (by simp only [List.map_toArray, List.map_cons, List.map_nil]; rfl) ?_
            refine (impl_rules.calls (x.f6.length + 1) A6 c6 x.f6 (rulesOf x.f6) _ (Kd.C_below HXR.out.2.1 HB8.out) HXR.out.1 (irules_f x.f6 (by have := HRL.out; omega))).mono ?_
            rintro e wa ⟨rv, rfl, hrr, hb⟩
            refine ⟨_, rfl, ?_⟩
            have HBa := Aside0.mk (HB8.out.trans (Below.mono hb HB8.out.size))
            have HCa := Aside0.mk (HC8.out.below hb)
            have HZa := Aside0.mk (blk_below HZ8.out hb)
            have HSa := Aside0.mk (blk_below HS8.out hb)
            have HTBa := Aside0.mk (blk_below HTB8.out hb)
            have HTa := Aside0.mk (Kd.R_below HT8.out hb)
            obtain ⟨rA, rc, rfl⟩ := Kd.R_slice hrr
            have HRRa := Aside0.mk (St.of_R hrr (by decide))
            refine hK.out _ _ ⟨zcell HZa.out, (blk_cell HSa.out 6).trans rfl⟩ (fun hHeld => ?_)
            clear hK K hb hrr
            refine norm_ (a' := ?_) ?_ ?_
            rotate_left
            · simp only [Act.put, List.setIfInBounds_toArray, List.set_cons_zero, List.set_cons_succ]
              rfl
            refine one_ (i := 4) (N := (some 86)) #[true, true, true, true, true, false, false, false] rfl rfl (by kernel_rfl) (by decide) (fun K hK => ?_)
            refine goes_ Tryz.func33 (by kernel_rfl) rfl #[.agg #[.pointer (some ⟨h, 0, none⟩)], .slice rA (rulesOf x.f6).length rc] (by rfl) rfl rfl (by simp only [List.map_toArray, List.map_cons, List.map_nil]; rfl) ?_
            refine (zMerge_calls h _ wa (fun u w' => (Kd.int .u8).R 5 w' wa.heap.size (fun _ => True) u (mergeTo s.its (rulesOf x.f6) (rulesOf x.f6).length) ∧ Below wa.heap.size wa w') (fun w1 hb1 => (merge_calls w.heap.size h vc s.its s.sz s.done rA rc (rulesOf x.f6) w1 (HCa.out.below hb1) (Nat.le_trans HBa.out.size hb1.size) (HRRa.out.tk (TK.of_below hb1)) (by rw [rulesOf_length]; have := HRL.out; omega) (by have := HIV.out.n; omega) HIV.out.d).mono (fun e w' hx => by
              obtain ⟨u, he, hR, hB⟩ := hx
              exact ⟨u, he, Kd.R_lower hR hb1.size, hb1.trans (Below.mono hB hb1.size)⟩))).mono ?_
            rintro e wb ⟨mv, rfl, hmm, hb⟩
            refine ⟨_, rfl, ?_⟩
            have HBb := Aside0.mk (HBa.out.trans (Below.mono hb HBa.out.size))
            have HCb := Aside0.mk (HCa.out.below hb)
            have HZb := Aside0.mk (blk_below HZa.out hb)
            have HSb := Aside0.mk (blk_below HSa.out hb)
            have HTBb := Aside0.mk (blk_below HTBa.out hb)
            have HTb := Aside0.mk (Kd.R_below HTa.out hb)
            rw [rulesOf_length] at hmm
            obtain ⟨mA, mc, rfl⟩ := Kd.R_slice hmm
            have hcv := Kd.C_string (P := Tryz.prog) (A := mA) (c := mc) Tryz.underlying48 Tryz.underlying5 Tryz.underlying9 (Kd.R_reads' hmm).2.2
            refine hK.out _ _ ⟨zcell HZb.out, (blk_cell HSb.out 6).trans rfl⟩ (fun hHeld => ?_)
            clear hK K hb hmm
            refine norm_ (a' := ?_) ?_ ?_
            rotate_left
            · simp only [Act.put, List.setIfInBounds_toArray, List.set_cons_zero, List.set_cons_succ]
              rfl
            refine one_ (i := 5) (N := (some 87)) #[true, true, true, true, true, true, false, false] rfl rfl (by kernel_rfl) (by decide) (fun K hK => ?_)
            refine value_ (v := .string (strOfNums (mergeTo s.its (rulesOf x.f6) x.f6.length))) (w1 := wb) (by rfl) rfl (by first | (go_simp; done) | (go_simp; rfl)) ?_
            refine hK.out _ _ ⟨zcell HZb.out, (blk_cell HSb.out 6).trans rfl⟩ (fun hHeld => ?_)
            clear hK K
            refine norm_ (a' := ?_) ?_ ?_
            rotate_left
            · simp only [Act.put, List.setIfInBounds_toArray, List.set_cons_zero, List.set_cons_succ]
              rfl
            have t0 := (blk_cell HTBb.out 2).trans rfl
            have t1 := blk_frozen HTBb.out 2
            refine pure_ (i := 6) (N := (some 88)) (v := ?_) (a' := ?_) #[true, true, true, true, true, true, true, false] rfl rfl (by kernel_rfl) (fun _ _ _ h => h.elim) (Or.inl ⟨by rfl, ?_⟩) ?_ ?_
            rotate_left
            · intro w'
              go_simp
              with_reducible rfl
            rotate_left
            · simp only [Act.put, List.setIfInBounds_toArray, List.set_cons_zero, List.set_cons_succ, i64_w, i32_w]
              rfl
            refine last_ (i := 7) (N := none) #[true, true, true, true, true, true, true, true] rfl rfl (by kernel_rfl) (by decide) (fun K hK => ?_)
            refine skip_ (w1 := ?_) (by rfl) rfl ?_ ?_
            rotate_left
            · go_simp
              rfl
            refine hK.out _ _ ?_
            clear hK K
            refine done_ (by kernel_rfl) ?_
            refine NoPanic.normal ?_
            go_upto_region 35 with (fail)
            obtain ⟨w9, hw9⟩ : ∃ w9, w9 = wb.setCell ⟨tb, 2, none⟩ (.string (strOfNums (mergeTo s.its (rulesOf x.f6) x.f6.length))) := ⟨_, rfl⟩
            rw [← hw9]
            have HLK9 := Aside0.mk (show Lkd wb w9 tb from hw9 ▸ (Lkd.refl wb tb).set 2 _)
            have HTB9 := Aside0.mk (show w9.heap[tb]? = some (.cells #[.bool false, .int .i64 0, .string (strOfNums (mergeTo s.its (rulesOf x.f6) x.f6.length)), .slice none 0 0, .slice none 0 0] 40 (0, 0)) from hw9 ▸ blk_put (cs' := #[.bool false, .int .i64 0, .string (strOfNums (mergeTo s.its (rulesOf x.f6) x.f6.length)), .slice none 0 0, .slice none 0 0]) HTBb.out 2 _ rfl)
            have HC9 := Aside0.mk (HCb.out.only HLK9.out HTBb.out (by decide) (by decide))
            have HZ9 := Aside0.mk ((HLK9.out.blk gz (blk_ne HZb.out HTBb.out (by decide))).trans HZb.out)
            have HT9 := Aside0.mk (Kd.R_mono (Kd.R_move HTb.out (fun k hk => HLK9.out.blk k (Nat.ne_of_lt hk))) (fun _ _ => trivial))
            have HB9 := Aside0.mk (HBb.out.only HLK9.out HTG.out)
            clear hw9 t0 t1
            have HPV9 := Aside0.mk (Kd.R_nil kPd 71 w9 w.heap.size (fun _ => False))
            have HOK9 := Aside0.mk (show ∀ k : Nat, False → True ∧ some k ≠ u4.ownBlock from fun _ hk => hk.elim)
            have HTD := Aside0.mk (show tolds l (i + 1) = tolds l i ++ [(⟨false, 0, strOfNums (mergeTo s.its (rulesOf x.f6) x.f6.length), []⟩ : Told)] from by rw [tolds, HSS.out, HXX.out]; exact congrArg (fun z => tolds l i ++ [z]) HTO.out)
            have HRN := Aside0.mk (show runTo l (i + 1) = stepTo s x from by rw [runTo, HSS.out, HXX.out])
            have b0 := (blk_cell HTB9.out 0).trans rfl
            have b1 := (blk_cell HTB9.out 1).trans rfl
            have b2 := (blk_cell HTB9.out 2).trans rfl
            have b3 := (blk_cell HTB9.out 3).trans rfl
            have b4 := (blk_cell HTB9.out 4).trans rfl
            have HLL := Aside0.mk (show ((tolds l i).length + 1) * 80 ≤ 140737488355328 by rw [tolds_length]; omega)
            go_wp2_with ((with_reducible refine gate_dst (N := 159) rfl ?_); refine Kd.R_append kTold (w0 := w) w.heap.size rfl (.tmp 156) (.tmp 158) 33 40 (.agg #[.bool false, .int .i64 0, .string ⟨#[]⟩, .slice none 0 0, .slice none 0 0]) 80 rfl Tryz.underlying33 info_told rfl (by decide) (by omega) u4 (tolds l i) ((⟨false, 0, strOfNums (mergeTo s.its (rulesOf x.f6) x.f6.length), []⟩ : Told) : Told) [.bool false, .int .i64 0, .string (strOfNums (mergeTo s.its (rulesOf x.f6) x.f6.length)), .slice none 0 0, .slice none 0 0] (fun _ => True) (fun _ => False) rfl rfl (kTold_mkM ((⟨false, 0, strOfNums (mergeTo s.its (rulesOf x.f6) x.f6.length), []⟩ : Told) : Told) HPV9.out) HOK9.out (fun _ _ => trivial) HT9.out HB9.out HB9.out.size HLL.out ?_; intro v10 w10 ho hb hg hat; have HT10 := Aside0.mk ho; have HB10 := Aside0.mk hb; have HZ10 := Aside0.mk (blk_grown HZ9.out hg (Kd.R_ne HT9.out HZ9.out (by decide))); have HC10 := Aside0.mk (HC9.out.grownTy HT9.out hg (by decide) (by decide)); clear ho hb hg hat b0 b1 b2 b3 b4)
            go_roundg (l.length - (i + 1))
            case measure => have := HG.out; omega
            case rel => exact ⟨i + 1, by go_num, ⟨rfl⟩, ⟨by omega⟩, HB10, ⟨by rw [HRN.out, HSTP.out]; exact ⟨_, HC10.out⟩⟩, HZ10, ⟨by rw [HTD.out]; exact HT10.out⟩, ⟨by rw [HRN.out]; exact HIV.out.step HF.out⟩⟩
    · have hltb : decide ((i : Int) < (l.length : Int)) = false := decide_eq_false (by omega)
      have hil : i = l.length := by have := HI.out; omega
      subst hil
      go_wp2
      go_ret
      exact ⟨_, rfl, HT4.out, HB4.out⟩
end Go.Proofs.YtmkbebincjppnaaGreatDoor
