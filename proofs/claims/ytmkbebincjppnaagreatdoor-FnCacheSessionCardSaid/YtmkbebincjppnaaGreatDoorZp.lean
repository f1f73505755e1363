/- What one rule pulls, by its door. -/
import Derived.Test.YtmkbebincjppnaaGreatDoorZz
import Derived.Test.YtmkbebincjppnaaGreatDoorMo
namespace Go.Proofs.YtmkbebincjppnaaGreatDoor
open Go.RowKit Go.MuLone Go.Proofs.YtmkbebincjppnaaGreatDoorW.PrintWords Go.Proofs.YtmkbebincjppnaaGreatDoorW.PrintLast Go.Proofs.YtmkbebincjppnaaGreatDoorW.PrintMore Go.Proofs.YtmkbebincjppnaaGreatDoor.PLib
set_option linter.unusedVariables false
set_option linter.unusedSimpArgs false

section
variable {P : Program} {ops : Array Oper} {rest : List Oper} {o : Oper} {a : Act} {Q : Exit → Act → World → Prop}
theorem row_event {W : World} (hgd : o.guard = none) {N : Tmp} (_hd : o.dst = some N) {cs : Array Value} {t : TypeId}
    (hrun : (execOp a.eval o).run P W = .ok (.value (.slice (some ⟨W.heap.size, 0, none⟩) 1 1)) (W.alloc (.cells cs t (0, 0))))
    (h : ∀ g, g = W.heap.size → ∀ w1, w1.heap[g]? = some (.cells cs t (0, 0)) → Below W.heap.size W w1 → wpList P ops Q rest (a.put o.dst (.slice (some ⟨g, 0, none⟩) 1 1)) w1) : wpList P ops Q (o :: rest) a W :=
  Kd.event_run hgd hrun (h _ rfl _ (blk_new W _) (below_alloc (Below.refl _ _) _))
/-- A string's bytes. -/
theorem bytes_event {W : World} (hgd : o.guard = none) {N : Tmp} (_hd : o.dst = some N) (src dst : TypeId) (x : Operand) (ho : o.op = .convert src dst x) (s : ByteArray) {u : TypeDesc} (hx : a.eval x = .string s)
    (hs : P.underlying src = some u) (hd : P.underlying dst = some (.slice 5)) (he : P.underlying 5 = some (.int .u8)) (hl : s.size ≤ 9223372036854775807)
    (h : ∀ ad c w1, St (Kd.int .u8) w1 (some ad) (bytesOf s) → Below W.heap.size W w1 → wpList P ops Q rest (a.put o.dst (.slice (some ad) (bytesOf s).length c)) w1) : wpList P ops Q (o :: rest) a W := by
  have hr := print_bytes (P := P) src dst 5 hs hd he s W
  have h1 := h ⟨W.heap.size, 0, none⟩ (grownCap W s.size 0 5) _ (St.of_bytes W s hl) (bytes_below (Below.refl _ _) (Nat.le_refl _) _ _)
  rw [bytesOf_length] at h1
  refine Kd.event_run hgd ?_ h1
  simp [execOp, ho, hx, hr]
end

/-- A row of one rule. -/
theorem St.rule {w : World} {g : Nat} {r : Rl} (h : w.heap[g]? = some (.cells #[.int .u8 r.f0, .int .u16 r.f1, .bool r.f2, .bool r.f3] 96 (0, 0))) : St kRl w (some ⟨g, 0, none⟩) [r] := by
  intro W hk
  have hb := hk.keep h (by decide) (by decide)
  refine ⟨rfl, by simp, fun _ => ⟨_, rfl, fun j p hj => ?_⟩⟩
  cases j with
  | succ j => simp at hj
  | zero =>
    simp at hj
    subst hj
    refine ⟨_, rfl, k96_mk W _, fun i u hi => ?_⟩
    rw [show (0 : Nat) * kRl.sz + i = i by omega, add_plain, blk_cell hb]
    simpa using hi

set_option maxHeartbeats 4000000 in
set_option maxRecDepth 100000 in
theorem zPulled_calls (base h : Nat) (v : Value) (its : List It) (sz : Int) (done : Bool) (r : Rl) (w : World)
    (hC : Ca w base h v its sz done 0) (hbase : base ≤ w.heap.size) (hits : its.length < 1000000) :
    Calls Tryz.prog 32 #[.agg #[.pointer (some ⟨h, 0, none⟩)], .agg #[.int .u8 r.f0, .int .u16 r.f1, .bool r.f2, .bool r.f3]] w fun e w' =>
      ∃ A c bs, e = .returned (.tuple #[.bool (pdOf its r).has, .int .u16 (pdOf its r).ep, .int .u16 (pdOf its r).sq, .slice A bs.length c]) ∧ strOfNums bs = (pdOf its r).dat ∧ (Kd.int .u8).C w' A bs.length bs ∧ Below w.heap.size w w' := by
  have huz := Tryz.underlying87
  have hur := Tryz.underlying96
  have HC := Aside0.mk hC
  clear hC
  go_enter Tryz.func32, Tryz.ntmps32
  go_upto_region 2 with (first
    | ((with_reducible refine gate_dst (N := 2) rfl ?_); refine box_event ?hg (N := 2) ?hd (cs := #[.pointer (some ⟨h, 0, none⟩)]) (t := 87) ?hr ?_; (case hd => rfl); (case hg => rfl); (case hr => first | (go_simp; done) | (go_simp; rfl)); intro gb hgb w5 hbox hb; have z0 := zcell hbox; have HX := Aside0.mk hbox; have HB5 := Aside0.mk hb; clear hbox hb hgb)
    | ((with_reducible refine gate_dst (N := 3) rfl ?_); refine box_event ?hg (N := 3) ?hd (cs := #[.int .u8 r.f0, .int .u16 r.f1, .bool r.f2, .bool r.f3]) (t := 96) ?hr ?_; (case hd => rfl); (case hg => rfl); (case hr => first | (go_simp; done) | (go_simp; rfl)); intro gr hgr w6 hbox hb; clear z0; have z0 := zcell (blk_below HX.out hb); have r0 := (blk_cell hbox 0).trans rfl; have r1 := (blk_cell hbox 1).trans rfl; have r2 := (blk_cell hbox 2).trans rfl; have r3 := (blk_cell hbox 3).trans rfl; have HB6 := Aside0.mk (HB5.out.trans (Below.mono hb HB5.out.size)); clear hbox hb hgr HX)
    | ((with_reducible refine gate_dst (N := 12) rfl ?_); refine row_event ?hg (N := 12) ?hd (cs := #[.int .u8 r.f0, .int .u16 r.f1, .bool r.f2, .bool r.f3]) (t := 96) ?hr ?_; (case hd => rfl); (case hg => rfl); (case hr => first | (go_simp; done) | (go_simp; rfl)); intro gs hgs w7 hbox hb; have HS7 := Aside0.mk (St.rule hbox); have HB7 := Aside0.mk (HB6.out.trans (Below.mono hb HB6.out.size)); clear hbox hb hgs r0 r1 r2 r3 z0)
    | (go_at_call 83; refine (pull_calls base h v its sz done (some ⟨gs, 0, none⟩) 1 [r] _ (HC.out.below HB7.out) (Nat.le_trans hbase HB7.out.size) HS7.out (by simp) hits).mono ?_; rintro e w8 ⟨og, P, rfl, hb, ho, hp⟩; have HB8 := Aside0.mk (HB7.out.trans (Below.mono hb HB7.out.size)); have hoc : w8.cell? ⟨og, 0, none⟩ = some (ptrOf P (pick its r)) := (blk_cell ho 0).trans (outs_at P 1 _ 0 (by omega)); have HPP := Aside0.mk (hp w HC.out HB7.out); clear hb ho hp))
  have HB := HB8
  clear HB5 HB6 HB7
  cases hpk : pick its r with
  | none =>
    have hpd : pdOf its r = ⟨false, 0, 0, ⟨#[]⟩⟩ := by simp [pdOf, hpk]
    simp only [ptrOf]
    go_wp2
    refine bodyPost_ret (results_list (rs := [.tmp 4, .tmp 5, .tmp 6, .tmp 7]) (vs := [.bool false, .int .u16 0, .int .u16 0, .slice none 0 0]) rfl (by simp) (by repeat (first | exact trivial | exact rfl | constructor))) rfl ?_
    exact ⟨none, 0, [], by rw [hpd]; rfl, by rw [hpd]; rfl, ⟨rfl, by simp, fun h => absurd h (by simp)⟩, HB.out⟩
  | some k =>
    have hkl := (pickTo_lt its r _ k hpk).2
    obtain ⟨dv, hblk, hdv⟩ := HPP.out k hkl
    have hpd : pdOf its r = ⟨true, its[k].ep, its[k].sq, strOfNums its[k].dat⟩ := by simp [pdOf, hpk, List.getElem?_eq_getElem hkl]
    obtain ⟨dA, dc, rfl⟩ := Kd.R_slice hdv
    have hblk8 := blk_below hblk HB.out
    have g2 := (blk_cell hblk8 2).trans rfl
    have g3 := (blk_cell hblk8 3).trans rfl
    have g4 := (blk_cell hblk8 4).trans rfl
    have HDV := Aside0.mk (Kd.R_reads' (Kd.R_below hdv HB.out)).2.2
    have HPD := Aside0.mk hpd
    clear hblk hblk8 hdv hpd
    generalize its[k] = it at *
    simp only [ptrOf]
    go_wp2
    repeat (go_quiet (fail); try go_wp2)
    refine bodyPost_ret (results_list (rs := [.tmp 4, .tmp 5, .tmp 6, .tmp 7]) (vs := [.bool true, .int .u16 it.ep, .int .u16 it.sq, .slice dA it.dat.length dc]) rfl (by simp) (by repeat (first | exact trivial | exact rfl | constructor))) rfl ?_
    exact ⟨dA, dc, it.dat, by rw [HPD.out], by rw [HPD.out], Kd.C_drewN HDV.out _, pw_below_drewN HB.out _⟩
end Go.Proofs.YtmkbebincjppnaaGreatDoor
