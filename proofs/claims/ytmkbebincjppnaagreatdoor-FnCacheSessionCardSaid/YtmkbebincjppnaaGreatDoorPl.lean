/- The cache's pull: of each rule the last match, or none. -/
import Derived.Test.YtmkbebincjppnaaGreatDoorPu
import Derived.Test.YtmkbebincjppnaaGreatDoorPLibx0
import Derived.BigQuiet
import Derived.Deep.QuietTactic
namespace Go.Proofs.YtmkbebincjppnaaGreatDoor
open Go.RowKit Go.MuLone Go.Proofs.YtmkbebincjppnaaGreatDoorW.PrintWords Go.Proofs.YtmkbebincjppnaaGreatDoorW.PrintLast Go.Proofs.YtmkbebincjppnaaGreatDoorW.PrintMore Go.Proofs.YtmkbebincjppnaaGreatDoor.PLib
set_option linter.unusedVariables false
set_option linter.unusedSimpArgs false

abbrev Rl := S96
abbrev kRl : Kd Rl := k96

/-- A rule meets a message. -/
def meets (x : It) (r : Rl) : Prop := x.ty = r.f0 ∧ x.cl = r.f2 ∧ x.ep = r.f1
instance (x : It) (r : Rl) : Decidable (meets x r) := inferInstanceAs (Decidable (_ ∧ _))
/-- What a rule has picked behind the first k messages. -/
def pickTo (its : List It) (r : Rl) : Nat → Option Nat
  | 0 => none
  | k + 1 => match its[k]? with
    | none => pickTo its r k
    | some x => if meets x r then (match pickTo its r k with
        | none => some k
        | some j => if (its[j]?.getD ⟨0, false, 0, 0, []⟩).sq < x.sq then some k else some j) else pickTo its r k
def pick (its : List It) (r : Rl) : Option Nat := pickTo its r its.length
theorem pickTo_lt (its : List It) (r : Rl) : ∀ k j, pickTo its r k = some j → j < k ∧ j < its.length
  | 0, j, h => by simp [pickTo] at h
  | k + 1, j, h => by
    have ih := pickTo_lt its r k
    rw [pickTo] at h
    split at h
    · have := ih j h; omega
    · rename_i x hx
      have hk := (List.getElem?_eq_some_iff.1 hx).1
      split at h
      · split at h
        · cases h; omega
        · rename_i j' hj'
          have := ih j' hj'
          split at h <;> cases h <;> omega
      · have := ih j h; omega
def ptrOf (P : Nat → Nat) : Option Nat → Value
  | none => .pointer none
  | some k => .pointer (some ⟨P k, 0, none⟩)
def outs (P : Nat → Nat) (n : Nat) (f : Nat → Option Nat) : Array Value := ((List.range n).map (fun j => ptrOf P (f j))).toArray
theorem outs_at (P : Nat → Nat) (n : Nat) (f : Nat → Option Nat) (i : Nat) (hi : i < n) : (outs P n f)[i]? = some (ptrOf P (f i)) := by
  simp [outs, hi]
theorem outs_set (P : Nat → Nat) (n : Nat) (f f' : Nat → Option Nat) (i : Nat) (hi : ∀ j, j ≠ i → f' j = f j) : (outs P n f).setIfInBounds i (ptrOf P (f' i)) = outs P n f' := by
  apply Array.ext
  · simp [outs]
  · intro j h1 h2
    simp [outs] at h1 h2 ⊢
    rw [List.getElem_set]
    split
    · rename_i e; subst e; rfl
    · rename_i e; simp [hi j (fun h => e h.symm)]
theorem outs_congr (P : Nat → Nat) (n : Nat) (f f' : Nat → Option Nat) (h : ∀ j, j < n → f j = f' j) : outs P n f = outs P n f' := by
  unfold outs
  congr 1
  exact List.map_congr_left (fun j hj => by rw [h j (by simpa using hj)])

/-- What taking the lock leaves. -/
structure Lkd (w w1 : World) (h : Nat) : Prop where
  os : w1.os = w.os
  tape : w1.tape = w.tape
  output : w1.output = w.output
  size : w1.heap.size = w.heap.size
  blk : ∀ i, i ≠ h → w1.heap[i]? = w.heap[i]?
theorem Lkd.of (w : World) (h : Nat) (u : Value) : Lkd w (w.setCell ⟨h, 3, none⟩ u) h :=
  ⟨rfl, rfl, rfl, by simp [World.setCell], fun i hi => Below.heap_setCell w ⟨h, 3, none⟩ u i hi⟩
/-- The lock, taken and left: nothing that was there has turned. -/
theorem Lkd.undo {w w1 wr : World} {base h : Nat} {v : Value} {its : List It} {sz : Int} {done : Bool} (l : Lkd w w1 h) (c : Ca w base h v its sz done 0) (c4 : Ca wr base h v its sz done 1) (hb : Below w1.heap.size w1 wr) :
    Below w.heap.size w (wr.setCell ⟨h, 3, none⟩ (.int .i32 0)) where
  os := hb.os.trans l.os
  tape := hb.tape.trans l.tape
  output := hb.output.trans l.output
  size := by
    have e : (wr.setCell ⟨h, 3, none⟩ (.int .i32 0)).heap.size = wr.heap.size := by simp [World.setCell]
    rw [e, ← l.size]
    exact hb.size
  block := fun i hi => by
    by_cases e : i = h
    · subst e
      rw [(c4.lock 0).blk, c.blk]
    · refine (Below.heap_setCell wr ⟨h, 3, none⟩ _ i e).trans ?_
      rw [hb.block i (by rw [l.size]; exact hi), l.blk i e]

theorem Ca.rowne {w : World} {base h a p n : Nat} {its : List It} {sz lk : Int} {done : Bool} (c : Ca w base h (.slice (some ⟨a, 0, none⟩) n p) its sz done lk) (hl : 0 < its.length) : a ≠ h := by
  obtain ⟨a', p', hv, hb, hlt, cells, hcell⟩ := Kd.R_form c.row (by omega)
  have e0 : a = a' := by simpa using (Value.slice.inj hv).1
  subst e0
  exact blk_ne hcell c.blk (by decide)

/-- The messages' blocks. -/
theorem Ca.blocks {w : World} {base h : Nat} {A : Option Addr} {p : Nat} {its : List It} {sz : Int} {done : Bool} {lk : Int} (c : Ca w base h (.slice A its.length p) its sz done lk) :
    ∃ (P : Nat → Nat) (D : Nat → Value), ∀ k (hk : k < its.length), ∃ a, A = some ⟨a, 0, none⟩ ∧ w.cell? ⟨a, k, none⟩ = some (.pointer (some ⟨P k, 0, none⟩)) ∧
      w.heap[P k]? = some (.cells #[.int .u8 its[k].ty, .bool its[k].cl, .int .u16 its[k].ep, .int .u16 its[k].sq, D k] 162 (0, 0)) ∧ base ≤ P k ∧ (Kd.int .u8).R 5 w base (fun _ => True) (D k) its[k].dat := by
  have h1 : ∀ k, ∃ g dv, ∀ (hk : k < its.length), ∃ a, A = some ⟨a, 0, none⟩ ∧ w.cell? ⟨a, k, none⟩ = some (.pointer (some ⟨g, 0, none⟩)) ∧
      w.heap[g]? = some (.cells #[.int .u8 its[k].ty, .bool its[k].cl, .int .u16 its[k].ep, .int .u16 its[k].sq, dv] 162 (0, 0)) ∧ base ≤ g ∧ (Kd.int .u8).R 5 w base (fun _ => True) dv its[k].dat := by
    intro k
    by_cases hk : k < its.length
    · obtain ⟨a, p', dv, hv, _, g, h2, h3, h4, h5⟩ := c.item k hk
      injection hv with e1 _ _
      exact ⟨g, dv, fun _ => ⟨a, e1, h2, h3, h4, h5⟩⟩
    · exact ⟨0, .nilIface, fun h => absurd h hk⟩
  exact ⟨fun k => (h1 k).choose, fun k => (h1 k).choose_spec.choose, fun k hk => (h1 k).choose_spec.choose_spec hk⟩

section
variable {P : Program} {ops : Array Oper} {rest : List Oper} {o : Oper} {a : Act} {Q : Exit → Act → World → Prop}
/-- make([]*T, n): no message yet. -/
theorem make_items {W : World} (hgd : o.guard = none) {N : Tmp} (hd : o.dst = some N) (t e : TypeId) (x y : Operand) (ho : o.op = .makeSlice t x y) (n : Nat) (hx : a.eval x = .int .i64 n) (hy : a.eval y = .int .i64 n)
    (ht : P.underlying t = some (.slice e)) (hinfo : (P.info? e).map (fun i => (i.zero, i.size, i.bytes)) = some (some (.pointer none), 1, 8)) (hl : n < 1000000)
    (h : ∀ g, g = W.heap.size → ∀ w1, (∀ p, w1.heap[g]? = some (.cells (outs p n (fun _ => none)) e (0, 0))) → Below W.heap.size W w1 → wpList P ops Q rest (a.put o.dst (.slice (some ⟨g, 0, none⟩) n n)) w1) : wpList P ops Q (o :: rest) a W := by
  obtain ⟨i0, hi, hzz⟩ := Option.map_eq_some_iff.1 hinfo
  simp only [Prod.mk.injEq] at hzz
  obtain ⟨hz0, hz1, hz2⟩ := hzz
  have hr := run_make (P := P) W t e i0 (.pointer none) ht hi hz0 .i64 .i64 (n : Int) (n : Int) (by omega) (by omega) (by rw [hz2]; omega) (by omega)
  simp only [Int.toNat_natCast] at hr
  rw [hz1] at hr
  refine Kd.event_run hgd (v := .slice (some ⟨W.heap.size, 0, none⟩) n n) (w1 := W.alloc (.cells (madeCells (Value.pointer none).cells (n * 1)) e)) ?_ (h _ rfl _ (fun p => ?_) (below_alloc (Below.refl _ _) _))
  · simp [execOp, ho, hx, hy, hr]
  · refine (blk_new W _).trans ?_
    have e1 : madeCells (Value.pointer none).cells (n * 1) = outs p n (fun _ => none) := by
      apply Array.ext
      · simp [outs, madeCells]
      · intro j h1 h2
        simp [outs, madeCells, ptrOf, Value.cells, Nat.mod_one]
    rw [e1]
end

set_option maxHeartbeats 4000000 in
set_option maxRecDepth 100000 in
theorem pull_calls (base h : Nat) (v : Value) (its : List It) (sz : Int) (done : Bool) (Ar : Option Addr) (cr : Nat) (rs : List Rl) (w : World)
    (hC : Ca w base h v its sz done 0) (hbase : base ≤ w.heap.size) (hr : St kRl w Ar rs) (hn : rs.length < 1000000) (hits : its.length < 1000000) :
    Calls Tryz.prog 83 #[.pointer (some ⟨h, 0, none⟩), .slice Ar rs.length cr] w fun e w' =>
      ∃ (o : Nat) (P : Nat → Nat), e = .returned (.slice (some ⟨o, 0, none⟩) rs.length rs.length) ∧ Below w.heap.size w w' ∧
        w'.heap[o]? = some (.cells (outs P rs.length (fun j => pick its (rs.getD j z96))) 158 (0, 0)) ∧
        (∀ W0, Ca W0 base h v its sz done 0 → Below W0.heap.size W0 w → ∀ k (hk : k < its.length), ∃ dv, W0.heap[P k]? = some (.cells #[.int .u8 its[k].ty, .bool its[k].cl, .int .u16 its[k].ep, .int .u16 its[k].sq, dv] 162 (0, 0)) ∧ (Kd.int .u8).R 5 W0 base (fun _ => True) dv its[k].dat) := by
  obtain ⟨A, p, rfl, hp, hm⟩ := hC.vform
  have hk := hC.c3
  have hfr := hC.fr 3
  have hu96 := Tryz.underlying96
  have HC := Aside0.mk hC
  have HR := Aside0.mk hr
  clear hC hr
  go_enter_defers Tryz.func83, Tryz.ntmps83
  go_wp2_with (first
    | (go_at_call 113; refine (lock_free muLib ⟨h, 3, none⟩ _ hk hfr).mono ?_; rintro e w1 ⟨rfl, hw⟩; have HC1 := Aside0.mk (show Ca w1 base h (.slice A its.length p) its sz done 1 from hw ▸ HC.out.lock 1); have HT1 := Aside0.mk (show TK w w1 from hw ▸ HC.out.tkset (TK.refl w) 3 _); have HL := Aside0.mk (show Lkd w w1 h from hw ▸ Lkd.of w h _); have HB1 := Aside0.mk (show Below base w w1 from hw ▸ (Below.refl base w).setCell HC.out.ge _); clear hw hk hfr; have hbase1 : base ≤ w1.heap.size := Nat.le_trans hbase HB1.out.size)
    | ((with_reducible refine gate_dst (N := 19) rfl ?_); refine make_items rfl (N := 19) rfl 159 158 (.tmp 18) (.tmp 18) rfl rs.length (by rfl) (by rfl) Tryz.underlying159 info_pitem hn ?_; intro o ho w2 hout0 hb2; have HO0 := Aside0.mk hout0; have HB2 := Aside0.mk hb2; have HOS := Aside0.mk ho; clear hout0 hb2 ho))
  obtain ⟨P, D, hPD⟩ := HC1.out.blocks
  have HPD := Aside0.mk hPD
  clear hPD
  have HR1 := Aside0.mk ((HR.out.tk HT1.out).now)
  clear HR
  go_loopg [22] rs.length (fun gk v22 w' => ∃ i : Nat, v22 = .int .i64 i ∧ Aside0 (gk = rs.length - i) ∧ Aside0 (i ≤ rs.length) ∧ Aside0 (Below w1.heap.size w1 w') ∧ Aside0 (w'.heap[o]? = some (.cells (outs P rs.length (fun j => if j < i then pick its (rs.getD j z96) else none)) 158 (0, 0))))
  case atStart => exact ⟨0, rfl, ⟨by omega⟩, ⟨by omega⟩, HB2, ⟨by simpa using HO0.out P⟩⟩
  case round =>
    obtain ⟨i, rfl, HG, HI, HBn, HOn⟩ := hrel
    by_cases hlt : i < rs.length
    · have hltb : decide ((i : Int) < (rs.length : Int)) = true := decide_eq_true (by omega)
      have i0 : (0 : Int) ≤ (i : Int) := by omega
      have i1 : (i : Int) < (rs.length : Int) := by omega
      obtain ⟨ar, rfl, hr0, hr1, hr2, hr3⟩ := at_T96 (Kd.C_below HR1.out HBn.out) (i : Int) i0 i1
      have hrd : rd_T96 rs (i : Int) = rs.getD i z96 := by simp [rd_T96]
      rw [hrd] at hr0 hr1 hr2 hr3
      simp only [Int.toNat_natCast] at hr0 hr1 hr2 hr3
      generalize hrl : rs.getD i z96 = r at *
      have i0t := eq_true i0
      have i1t := eq_true i1
      go_upto_region 7 with ((with_reducible refine gate_dst (N := 7) rfl ?_); refine box_event ?hg (N := 7) ?hd (cs := #[.int .u8 0, .int .u16 0, .bool false, .bool false]) (t := 96) ?hr ?_; (case hd => rfl); (case hg => rfl); (case hr => first | (go_simp; done) | (go_simp; rfl)); intro gb hgb w7 hbox hb; have HB7 := Aside0.mk (HBn.out.trans (Below.mono hb HBn.out.size)); have HO7 := Aside0.mk (blk_below HOn.out hb); have HX := Aside0.mk hbox; have HG7 := Aside0.mk (show w1.heap.size ≤ gb by rw [hgb]; exact HBn.out.size); have x0 := (blk_cell hbox 0).trans rfl; have x1 := (blk_cell hbox 1).trans rfl; have x2 := (blk_cell hbox 2).trans rfl; have x3 := (blk_cell hbox 3).trans rfl; have y0 := blk_frozen hbox 0; have y1 := blk_frozen hbox 1; have y2 := blk_frozen hbox 2; have y3 := blk_frozen hbox 3; clear hbox hb hgb HOn HBn)
      obtain ⟨w8, hw8⟩ : ∃ w8, w8 = (((w7.setCell ⟨gb, 0, none⟩ (.int .u8 r.f0)).setCell ⟨gb, 1, none⟩ (.int .u16 r.f1)).setCell ⟨gb, 2, none⟩ (.bool r.f2)).setCell ⟨gb, 3, none⟩ (.bool r.f3) := ⟨_, rfl⟩
      rw [← hw8]
      have hne : o ≠ gb := blk_ne HO7.out HX.out (by decide)
      have HX8 := Aside0.mk (show w8.heap[gb]? = some (.cells #[.int .u8 r.f0, .int .u16 r.f1, .bool r.f2, .bool r.f3] 96 (0, 0)) from hw8 ▸ blk_put (blk_put (blk_put (blk_put HX.out 0 _ rfl) 1 _ rfl) 2 _ rfl) 3 _ rfl)
      have HO8 := Aside0.mk (show w8.heap[o]? = _ from hw8 ▸ blk_far (blk_far (blk_far (blk_far HO7.out (p := ⟨gb, 0, none⟩) hne _) (p := ⟨gb, 1, none⟩) hne _) (p := ⟨gb, 2, none⟩) hne _) (p := ⟨gb, 3, none⟩) hne _)
      have HB8 := Aside0.mk (show Below w1.heap.size w1 w8 from hw8 ▸ below_set (below_set (below_set (below_set HB7.out HG7.out) HG7.out) HG7.out) HG7.out)
      clear hw8 x0 x1 x2 x3 y0 y1 y2 y3 HX HO7 HB7 HG7 hr0 hr1 hr2 hr3
      have HGE := Aside0.mk (show w1.heap.size ≤ o from by have := HOS.out; omega)
      have HNEo := Aside0.mk hne
      clear hne
      have hc0 := (HC1.out.below HB8.out).c0
      go_wp2
      clear hc0
      have hki : (its.length : Int) ≤ 9223372036854775807 := by omega
      go_loopg [32] its.length (fun gk2 v32 w' => ∃ k : Nat, v32 = .int .i64 k ∧ Aside0 (gk2 = its.length - k) ∧ Aside0 (k ≤ its.length) ∧ Aside0 (Below w1.heap.size w1 w') ∧
        Aside0 (w'.heap[o]? = some (.cells (outs P rs.length (fun j => if j < i then pick its (rs.getD j z96) else if j = i then pickTo its r k else none)) 158 (0, 0))) ∧ Aside0 (w'.heap[gb]? = some (.cells #[.int .u8 r.f0, .int .u16 r.f1, .bool r.f2, .bool r.f3] 96 (0, 0))))
      case atStart => exact ⟨0, rfl, ⟨by omega⟩, ⟨by omega⟩, HB8, ⟨HO8.out.trans (congrArg (fun z => some (Obj.cells z 158 (0, 0))) (outs_congr P rs.length _ _ (fun j _ => by simp [pickTo])))⟩, HX8⟩
      case round =>
        obtain ⟨k, rfl, HG2, HK, HB9, HO9, HX9⟩ := hrel
        clear HB8 HO8 HX8 hltb
        by_cases hlk : k < its.length
        · obtain ⟨a, hA, hcell, hblk, hbg, hdat⟩ := HPD.out k hlk
          subst hA
          have hltb : decide ((k : Int) < (its.length : Int)) = true := decide_eq_true (by omega)
          have hcell9 := (HB9.out.cell (World.block_lt_of_cell? w1 _ hcell)).trans hcell
          have hblk9 := blk_below hblk HB9.out
          have g0 := (blk_cell hblk9 0).trans rfl
          have g1 := (blk_cell hblk9 1).trans rfl
          have g2 := (blk_cell hblk9 2).trans rfl
          have g3 := (blk_cell hblk9 3).trans rfl
          have q0 := (blk_cell HX9.out 0).trans rfl
          have q1 := (blk_cell HX9.out 1).trans rfl
          have q2 := (blk_cell HX9.out 2).trans rfl
          have co := (blk_cell HO9.out i).trans (outs_at P rs.length _ i hlt)
          have fo := blk_frozen HO9.out i
          simp only [Nat.lt_irrefl, if_false, if_true] at co
          have hstep : pickTo its r (k + 1) = if meets its[k] r then (match pickTo its r k with
              | none => some k
              | some j => if (its[j]?.getD ⟨0, false, 0, 0, []⟩).sq < its[k].sq then some k else some j) else pickTo its r k := by
            rw [pickTo, List.getElem?_eq_getElem hlk]
          have k0 : (0 : Int) ≤ (k : Int) := by omega
          have k1 : (k : Int) < (its.length : Int) := by omega
          clear hcell hblk hblk9 hbg hdat
          generalize hit : its[k] = it at *
          by_cases e1 : it.ty = r.f0
          · by_cases e2 : it.cl = r.f2
            · by_cases e3 : it.ep = r.f1
              · have e1' : (it.ty == r.f0) = true := by simpa using e1
                have e2' : (it.cl == r.f2) = true := by simpa using e2
                have e3' : (it.ep == r.f1) = true := by simpa using e3
                rw [if_pos ⟨e1, e2, e3⟩] at hstep
                cases hpk : pickTo its r k with
                | none =>
                  rw [hpk] at co hstep
                  simp only [ptrOf] at co hstep
                  have HST := Aside0.mk hstep
                  clear hstep e1 e2 e3
                  go_wp2
                  repeat (go_quiet (fail); try go_wp2)
                  go_roundg (its.length - (k + 1))
                  case measure => have := HG2.out; omega
                  case rel => exact ⟨k + 1, by go_num, ⟨rfl⟩, ⟨by omega⟩, ⟨below_set (pw_below_drewN HB9.out _) HGE.out⟩, ⟨by
                    rw [HST.out]
                    refine (blk_set (blk_drewN HO9.out _) i _).trans (congrArg (fun z => some (Obj.cells z 158 (0, 0))) ?_)
                    have e5 := outs_set P rs.length (fun j => if j < i then pick its (rs.getD j z96) else if j = i then pickTo its r k else none) (fun j => if j < i then pick its (rs.getD j z96) else if j = i then some k else none) i (fun j hj => by simp [hj])
                    simpa [ptrOf] using e5⟩, ⟨blk_far (p := ⟨o, i, none⟩) (blk_drewN HX9.out _) (fun e => HNEo.out e.symm) _⟩⟩
                | some j =>
                  rw [hpk] at co hstep
                  simp only [ptrOf] at co hstep
                  have hjl := (pickTo_lt its r k j hpk).2
                  obtain ⟨a2, hA2, hc2, hbj, hb2, hd2⟩ := HPD.out j hjl
                  have s3 := (blk_cell (blk_below hbj HB9.out) 3).trans rfl
                  rw [List.getElem?_eq_getElem hjl, Option.getD_some] at hstep
                  clear hbj hA2 hc2 hb2 hd2 a2
                  generalize its[j] = itj at *
                  by_cases e4 : itj.sq < it.sq
                  · rw [if_pos e4] at hstep
                    have e4' : decide (itj.sq < it.sq) = true := decide_eq_true e4
                    have HST := Aside0.mk hstep
                    clear hstep e1 e2 e3 e4
                    go_wp2
                    repeat (go_quiet (fail); try go_wp2)
                    go_roundg (its.length - (k + 1))
                    case measure => have := HG2.out; omega
                    case rel => exact ⟨k + 1, by go_num, ⟨rfl⟩, ⟨by omega⟩, ⟨below_set (pw_below_drewN HB9.out _) HGE.out⟩, ⟨by
                      rw [HST.out]
                      refine (blk_set (blk_drewN HO9.out _) i _).trans (congrArg (fun z => some (Obj.cells z 158 (0, 0))) ?_)
                      have e5 := outs_set P rs.length (fun j => if j < i then pick its (rs.getD j z96) else if j = i then pickTo its r k else none) (fun j => if j < i then pick its (rs.getD j z96) else if j = i then some k else none) i (fun j hj => by simp [hj])
                      simpa [ptrOf] using e5⟩, ⟨blk_far (p := ⟨o, i, none⟩) (blk_drewN HX9.out _) (fun e => HNEo.out e.symm) _⟩⟩
                  · rw [if_neg e4] at hstep
                    have e4' : decide (itj.sq < it.sq) = false := decide_eq_false e4
                    have HST := Aside0.mk (hstep.trans hpk.symm)
                    clear hstep e1 e2 e3 e4
                    go_wp2
                    repeat (go_quiet (fail); try go_wp2)
                    go_roundg (its.length - (k + 1))
                    case measure => have := HG2.out; omega
                    case rel => exact ⟨k + 1, by go_num, ⟨rfl⟩, ⟨by omega⟩, ⟨pw_below_drewN HB9.out _⟩, ⟨by rw [HST.out]; exact HO9.out⟩, ⟨HX9.out⟩⟩
              · have e1' : (it.ty == r.f0) = true := by simpa using e1
                have e2' : (it.cl == r.f2) = true := by simpa using e2
                have e3' : (it.ep == r.f1) = false := by simpa using e3
                rw [if_neg (fun h => e3 h.2.2)] at hstep
                have HST := Aside0.mk hstep
                clear hstep e1 e2 e3
                go_wp2
                repeat (go_quiet (fail); try go_wp2)
                go_roundg (its.length - (k + 1))
                case measure => have := HG2.out; omega
                case rel => exact ⟨k + 1, by go_num, ⟨rfl⟩, ⟨by omega⟩, ⟨pw_below_drewN HB9.out _⟩, ⟨by rw [HST.out]; exact HO9.out⟩, ⟨HX9.out⟩⟩
            · have e1' : (it.ty == r.f0) = true := by simpa using e1
              have e2' : (it.cl == r.f2) = false := by simpa using e2
              rw [if_neg (fun h => e2 h.2.1)] at hstep
              have HST := Aside0.mk hstep
              clear hstep e1 e2
              go_wp2
              repeat (go_quiet (fail); try go_wp2)
              go_roundg (its.length - (k + 1))
              case measure => have := HG2.out; omega
              case rel => exact ⟨k + 1, by go_num, ⟨rfl⟩, ⟨by omega⟩, ⟨pw_below_drewN HB9.out _⟩, ⟨by rw [HST.out]; exact HO9.out⟩, ⟨HX9.out⟩⟩
          · have e1' : (it.ty == r.f0) = false := by simpa using e1
            rw [if_neg (fun h => e1 h.1)] at hstep
            have HST := Aside0.mk hstep
            clear hstep e1
            go_wp2
            repeat (go_quiet (fail); try go_wp2)
            go_roundg (its.length - (k + 1))
            case measure => have := HG2.out; omega
            case rel => exact ⟨k + 1, by go_num, ⟨rfl⟩, ⟨by omega⟩, ⟨pw_below_drewN HB9.out _⟩, ⟨by rw [HST.out]; exact HO9.out⟩, ⟨HX9.out⟩⟩
        · have hltb : decide ((k : Int) < (its.length : Int)) = false := decide_eq_false (by omega)
          have hkl : k = its.length := by have := HK.out; omega
          go_wp2
          go_roundg (rs.length - (i + 1))
          case measure => have := HG.out; omega
          case rel => exact ⟨i + 1, by go_num, ⟨rfl⟩, ⟨by omega⟩, HB9, ⟨HO9.out.trans (congrArg (fun z => some (Obj.cells z 158 (0, 0))) (outs_congr P rs.length _ _ (fun j _ => by
            by_cases h1 : j < i
            · rw [if_pos h1, if_pos (by omega)]
            · by_cases h2 : j = i
              · subst h2
                rw [if_neg h1, if_pos rfl, if_pos (by omega), hrl, hkl]
                rfl
              · rw [if_neg h1, if_neg h2, if_neg (by omega)])))⟩⟩
    · have hltb : decide ((i : Int) < (rs.length : Int)) = false := decide_eq_false (by omega)
      have hil : i = rs.length := by have := HI.out; omega
      subst hil
      have HC4 := Aside0.mk (HC1.out.below HBn.out)
      have HT4 := Aside0.mk (HT1.out.trans (TK.of_below HBn.out))
      have HB4 := Aside0.mk (HB1.out.trans (Below.mono HBn.out hbase1))
      go_wp2
      refine leaves_cons (f := 114) (args := #[.pointer (some ⟨h, 3, none⟩)]) (by simp) (by simp [go_sem]) ?_
      refine (unlock_deferred muLib ⟨h, 3, none⟩ .returning _ HC4.out.c3 (HC4.out.fr 3)).mono ?_
      rintro e u' w'' ⟨rfl, rfl, rfl⟩
      have hnh : ∀ g t cs, wr.heap[g]? = some (.cells cs t (0, 0)) → t ≠ 242 → g ≠ h := fun g t cs hg ht => blk_ne hg HC4.out.blk ht
      refine ⟨_, results_tmp rfl _ _ _, o, P, rfl, HL.out.undo HC.out HC4.out HBn.out, ?_, fun W0 c0 hb0 k hk => ?_⟩
      · refine (blk_far (p := ⟨h, 3, none⟩) HOn.out (hnh _ _ _ HOn.out (by decide)) _).trans (congrArg (fun z => some (Obj.cells z 158 (0, 0))) (outs_congr P rs.length _ _ (fun j hj => by rw [if_pos hj])))
      · obtain ⟨a, hA, hcell, hblk, _, hdat⟩ := HPD.out k hk
        subst hA
        obtain ⟨a', p', dv, hv, _, g, hc0, hblk0, _, hd0⟩ := c0.item k hk
        have e0 : a = a' := by simpa using (Value.slice.inj hv).1
        subst e0
        have e1 := (hb0.cell (World.block_lt_of_cell? W0 _ hc0)).trans hc0
        have e2 : w1.cell? ⟨a, k, none⟩ = w.cell? ⟨a, k, none⟩ := World.cell?_of_block (w := w) (w' := w1) (a := ⟨a, k, none⟩) (HL.out.blk a (HC.out.rowne (by omega)))
        rw [e2, e1] at hcell
        have e3 : g = P k := by simpa using hcell
        subst e3
        exact ⟨dv, hblk0, hd0⟩
end Go.Proofs.YtmkbebincjppnaaGreatDoor
