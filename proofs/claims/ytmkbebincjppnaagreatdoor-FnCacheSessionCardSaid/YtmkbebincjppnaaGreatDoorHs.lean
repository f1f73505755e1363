/- The toy hash as the cache uses it: made, written into, read. (Its region that draws its order printed by wip/reg.py.) -/
import Derived.Test.YtmkbebincjppnaaGreatDoorZz
import Derived.Test.YtmkbebincjppnaaGreatDoorPSesx1
import Derived.Lib.AppendStr
namespace Go.Proofs.YtmkbebincjppnaaGreatDoor
open Go.RowKit Go.Proofs.YtmkbebincjppnaaGreatDoorW.PrintWords Go.Proofs.YtmkbebincjppnaaGreatDoorW.PrintLast Go.Proofs.YtmkbebincjppnaaGreatDoorW.PrintMore
set_option linter.unusedVariables false
set_option linter.unusedSimpArgs false

set_option maxHeartbeats 4000000 in
theorem thash_calls (kind : Int) (w : World) :
    Calls Tryz.prog 39 #[.int .i64 kind] w fun e w' => ∃ g, e = .returned (.func (.func 98) #[] #[.pointer (some ⟨g, 0, none⟩)]) ∧ w'.heap[g]? = some (.cells #[.int .i64 kind] 3 (0, 0)) ∧ Below w.heap.size w w' := by
  have hmf : ∀ (fn : Fn) (first cap : Array Value) (w : World), (Instr.makeFunc fn first cap).run Tryz.prog w = .ok (.func fn first cap) w := fun _ _ _ _ => rfl
  go_enter Tryz.func39, Tryz.ntmps39
  go_wp2_with ((with_reducible refine gate_dst (N := 1) rfl ?_); refine box_event ?hg (N := 1) ?hd (cs := #[.int .i64 kind]) (t := 3) ?hr ?_; (case hd => rfl); (case hg => rfl); (case hr => first | (go_simp; done) | (go_simp; rfl)); intro gb hgb w5 hbox hb; have HX := Aside0.mk hbox; have HB5 := Aside0.mk hb; clear hbox hb hgb)
  go_ret
  exact ⟨gb, rfl, HX.out, HB5.out⟩

set_option maxHeartbeats 4000000 in
theorem thash1_calls (g : Nat) (kind : Int) (w : World) (hg : w.heap[g]? = some (.cells #[.int .i64 kind] 3 (0, 0))) :
    Calls Tryz.prog 98 #[.pointer (some ⟨g, 0, none⟩)] w fun e w' => ∃ d, e = .returned (.iface 215 (.pointer (some ⟨d, 0, none⟩))) ∧ w.heap.size ≤ d ∧ w'.heap[d]? = some (.cells #[.int .i64 kind, .slice none 0 0] 217 (0, 0)) ∧ Below w.heap.size w w' := by
  have hc : w.cell? ⟨g, 0, none⟩ = some (.int .i64 kind) := (blk_cell hg 0).trans rfl
  have hu := Tryz.underlying217
  clear hg
  go_enter Tryz.func98, Tryz.ntmps98
  go_wp2_with ((with_reducible refine gate_dst (N := 4) rfl ?_); refine box_event ?hg (N := 4) ?hd (cs := #[.int .i64 kind, .slice none 0 0]) (t := 217) ?hr ?_; (case hd => rfl); (case hg => rfl); (case hr => first | (go_simp; done) | (go_simp; rfl)); intro gb hgb w5 hbox hb; have HX := Aside0.mk hbox; have HB5 := Aside0.mk hb; have HG := Aside0.mk hgb; clear hbox hb hgb)
  go_ret
  exact ⟨gb, rfl, by rw [HG.out]; exact Nat.le_refl _, HX.out, HB5.out⟩

set_option maxHeartbeats 4000000 in
theorem dwrite_calls (d : Nat) (kind : Int) (A : Option Addr) (c : Nat) (ys : List Int) (w : World) (base : Nat) (hd : w.heap[d]? = some (.cells #[.int .i64 kind, .slice none 0 0] 217 (0, 0))) (hge : base ≤ d)
    (hr : (Kd.int .u8).C w A ys.length ys) (hl : ys.length ≤ 140737488355328) :
    Calls Tryz.prog 291 #[.pointer (some ⟨d, 0, none⟩), .slice A ys.length c] w fun e w' => ∃ A' c', e = .returned (.tuple #[.int .i64 ys.length, .nilIface]) ∧
      w'.heap[d]? = some (.cells #[.int .i64 kind, .slice A' ys.length c'] 217 (0, 0)) ∧ (Kd.int .u8).R 5 w' base (fun _ => True) (.slice A' ys.length c') ys ∧ Below base w w' := by
  have d1 := (blk_cell hd 1).trans rfl
  have HD := Aside0.mk hd
  have HR := Aside0.mk hr
  have HL := Aside0.mk (show ((([] : List Int)).length + ys.length) * 1 ≤ 140737488355328 by simpa using hl)
  have hlt : d < w.heap.size := blk_lt hd
  have HBZ := Aside0.mk (show base ≤ w.heap.size by omega)
  clear hd hr hl
  go_enter Tryz.func291, Tryz.ntmps291
  go_wp2_with ((with_reducible refine gate_dst (N := 12) rfl ?_); refine Kd.R_append_row (Value.int .u8) (0 : Int) (h1 := fun _ => rfl) (w0 := w) base rfl (.tmp 10) (.tmp 11) 48 5 (.int .u8 0) 1 rfl Tryz.underlying48 info_u8 rfl (by omega) (.slice none 0 0) [] ys A ys.length c (fun _ => True) rfl rfl (fun _ _ => trivial) (Kd.R_nil _ _ _ _ _) HR.out (Below.refl _ _) HBZ.out HL.out ?_; intro v1 w1 ho hb hg hat; rw [List.nil_append] at ho; obtain ⟨A1, c1, rfl⟩ := Kd.R_slice ho; have HO := Aside0.mk ho; have HB := Aside0.mk hb; have HD1 := Aside0.mk (blk_grown HD.out hg (show some d ≠ none from fun e => by cases e)); clear ho hb hg hat d1; have d1 := (blk_cell HD1.out 1).trans rfl; have f1 := blk_frozen HD1.out 1)
  go_ret2
  exact ⟨A1, c1, rfl, blk_put (cs' := #[.int .i64 kind, .slice A1 ys.length c1]) HD1.out 1 _ rfl, Kd.R_set HO.out HD1.out (by decide) 1 _, HB.out.setCell hge _⟩

section
variable {P : Program} {ops : Array Oper} {o : Oper} {a : Act} {Q : Exit → Act → World → Prop} {K : Act → World → Prop}
/-- append(nil, s...), s a string, as one step of a region that draws its order. -/
theorem step_append_str {W : World} {N : Option Tmp} (hw : Region.wanted o (yielded ops a.tmps) = true) (hN : o.dst = N) (s x : Operand) (t u e : TypeId)
    (ho : o.op = .call { callee := .builtin .append, args := #[s, x], argTypes := #[t, u] })
    (ht : P.underlying t = some (.slice e)) (hu : P.underlying u = some .string) (hinfo : (P.info? e).map (fun i => (i.zero, i.size, i.bytes)) = some (some (.int .u8 0), 1, 1))
    (y : ByteArray) (hs : a.eval s = .slice none 0 0) (hx : a.eval x = .string y) (hl : y.size ≤ 140737488355328)
    (h : ∀ v1 w1, (Kd.int .u8).R e w1 W.heap.size (fun _ => True) v1 (bytesOf y) → Below W.heap.size W w1 → K (a.put N v1) w1) :
    if Region.wanted o (yielded ops a.tmps) = true then Oper.wp P o a W K Q else K (a.put N undef) W := by
  subst hN
  obtain ⟨i0, hi, hzz⟩ := Option.map_eq_some_iff.1 hinfo
  simp only [Prod.mk.injEq] at hzz
  obtain ⟨hz0, hz1, hz2⟩ := hzz
  rw [if_pos hw]
  have HO : W.ownsRow W.heap.size e 1 (.slice none 0 0) 0 (nums .u8 []) := Kd.own_of_R (Kd.R_nil (Kd.int .u8) _ _ _ (fun _ => True))
  obtain ⟨v1, w1, hr, hown, hg, _⟩ := Lib.run_append_own_string (P := P) W W.heap.size t u o.type e i0 ht hu hi hz0 hz1 hz2 (.slice none 0 0) 0 (nums .u8 []) HO y (by simp only [maxLen]; omega) (by omega) (Nat.le_refl _)
  unfold Oper.wp execOp
  simp only [ho, resolve, invoke, builtin, Sem.run_bind, Sem.run_pure, Result.andThen_ok, List.map_toArray, List.map_cons, List.map_nil, hs, hx, hr]
  refine h v1 w1 (Kd.R_of_own (enc := Value.int .u8) (xs := bytesOf y) ?_ (fun _ _ => trivial)) ((Below.refl _ _).grown hg (Nat.le_refl _) (own_base HO))
  have e1 : encs (Value.int .u8) (bytesOf y) = nums .u8 [] ++ Lib.strCells y := by simp [nums, encs, bytesOf, Lib.strCells]
  have e2 : (bytesOf y).length = 0 + y.size := by rw [bytesOf_length]; omega
  rw [e1, e2]
  exact hown
end

set_option maxHeartbeats 4000000 in
set_option maxRecDepth 100000 in
theorem dsum_calls (d : Nat) (kind : Int) (A : Option Addr) (c : Nat) (ys : List Int) (w : World) (k : Nat) (r : ByteArray) (hd : w.heap[d]? = some (.cells #[.int .i64 kind, .slice A ys.length c] 217 (0, 0)))
    (hr : (Kd.int .u8).C w A ys.length ys) (hs : PSes.toy_Sum.f k kind (strOfNums ys) = some r) (hl : r.size ≤ 1000) :
    Calls Tryz.prog 290 #[.pointer (some ⟨d, 0, none⟩), .slice none 0 0] w fun e w' => ∃ v, e = .returned v ∧ (Kd.int .u8).R 5 w' w.heap.size (fun _ => True) v (bytesOf r) ∧ Below w.heap.size w w' := by
  have HD := Aside0.mk hd
  have HR := Aside0.mk hr
  have HS := Aside0.mk hs
  clear hd hr hs
  go_enter Tryz.func290, Tryz.ntmps290
  go_wp2
  have HD8 := Aside0.mk (blk_drew HD.out)
  have HR8 := Aside0.mk (Kd.C_below HR.out (below_drew (Below.refl _ _)))
  have HB8 := Aside0.mk (below_drew (Below.refl w.heap.size w))
  refine wp_region_noPanic ?_
  refine start_ (n := 13) (S := fun w' => w'.cell? ⟨d, 0, none⟩ = some (.int .i64 kind) ∧ w'.cell? ⟨d, 1, none⟩ = some (.slice A ys.length c) ∧ (Kd.int .u8).C w' A ys.length ys) (ds := []) #[false, false, false, false, false, false, false, false, false, false, false, false, false] (by kernel_rfl) rfl rfl ⟨(blk_cell HD8.out 0).trans rfl, (blk_cell HD8.out 1).trans rfl, HR8.out⟩ (fun hHeld => ?_)
  generalize w.drew = w8 at *
  refine pure_ (i := 0) (N := (some 5)) (v := ?_) (a' := ?_) #[true, false, false, false, false, false, false, false, false, false, false, false, false] rfl rfl (by kernel_rfl) (fun _ _ _ h => h.elim) (Or.inl ⟨by rfl, ?_⟩) ?_ ?_
  rotate_left
  · intro w'
    go_simp
    with_reducible rfl
  rotate_left
  · simp only [Act.put, List.setIfInBounds_toArray, List.set_cons_zero, List.set_cons_succ, i64_w, i32_w]
    rfl
  refine pure_ (i := 1) (N := (some 6)) (v := ?_) (a' := ?_) #[true, true, false, false, false, false, false, false, false, false, false, false, false] rfl rfl (by kernel_rfl) (fun _ _ _ h => h.elim) (Or.inl ⟨by rfl, ?_⟩) ?_ ?_
  rotate_left
  · intro w'
    go_simp
    with_reducible rfl
  rotate_left
  · simp only [Act.put, List.setIfInBounds_toArray, List.set_cons_zero, List.set_cons_succ, i64_w, i32_w]
    rfl
  refine pure_ (i := 2) (N := (some 7)) (v := ?_) (a' := ?_) #[true, true, true, false, false, false, false, false, false, false, false, false, false] rfl rfl (by kernel_rfl) (fun _ _ _ h => h.elim) (Or.inl ⟨by rfl, ?_⟩) ?_ ?_
  rotate_left
  · intro w'
    go_simp
    with_reducible rfl
  rotate_left
  · simp only [Act.put, List.setIfInBounds_toArray, List.set_cons_zero, List.set_cons_succ, i64_w, i32_w]
    rfl
  refine pure_ (i := 3) (N := (some 8)) (v := ?_) (a' := ?_) #[true, true, true, true, false, false, false, false, false, false, false, false, false] rfl rfl (by kernel_rfl) (fun _ _ _ h => h.elim) (Or.inl ⟨by rfl, ?_⟩) ?_ ?_
  rotate_left
  · intro w'
    go_simp
    with_reducible rfl
  rotate_left
  · simp only [Act.put, List.setIfInBounds_toArray, List.set_cons_zero, List.set_cons_succ, i64_w, i32_w]
    rfl
  refine take_ (i := 4) (N := (some 9)) (v := ?_) (a' := ?_) #[true, true, true, true, true, false, false, false, false, false, false, false, false] rfl rfl (by kernel_rfl) (fun _ _ _ h => h.elim) (Or.inl ⟨by rfl, ?_⟩) hHeld ?_ ?_
  rotate_left
  · intro w' s0; obtain ⟨s1, s2, s3⟩ := s0
    go_simp
    with_reducible rfl
  rotate_left
  · simp only [Act.put, List.setIfInBounds_toArray, List.set_cons_zero, List.set_cons_succ, i64_w, i32_w]
    rfl
  refine pure_ (i := 5) (N := (some 10)) (v := ?_) (a' := ?_) #[true, true, true, true, true, true, false, false, false, false, false, false, false] rfl rfl (by kernel_rfl) (fun _ _ _ h => h.elim) (Or.inl ⟨by rfl, ?_⟩) ?_ ?_
  rotate_left
  · intro w'
    go_simp
    with_reducible rfl
  rotate_left
  · simp only [Act.put, List.setIfInBounds_toArray, List.set_cons_zero, List.set_cons_succ, i64_w, i32_w]
    rfl
  refine pure_ (i := 6) (N := (some 11)) (v := ?_) (a' := ?_) #[true, true, true, true, true, true, true, false, false, false, false, false, false] rfl rfl (by kernel_rfl) (fun _ _ _ h => h.elim) (Or.inl ⟨by rfl, ?_⟩) ?_ ?_
  rotate_left
  · intro w'
    go_simp
    with_reducible rfl
  rotate_left
  · simp only [Act.put, List.setIfInBounds_toArray, List.set_cons_zero, List.set_cons_succ, i64_w, i32_w]
    rfl
  refine pure_ (i := 7) (N := (some 12)) (v := ?_) (a' := ?_) #[true, true, true, true, true, true, true, true, false, false, false, false, false] rfl rfl (by kernel_rfl) (fun _ _ _ h => h.elim) (Or.inl ⟨by rfl, ?_⟩) ?_ ?_
  rotate_left
  · intro w'
    go_simp
    with_reducible rfl
  rotate_left
  · simp only [Act.put, List.setIfInBounds_toArray, List.set_cons_zero, List.set_cons_succ, i64_w, i32_w]
    rfl
  refine take_ (i := 8) (N := (some 13)) (v := ?_) (a' := ?_) #[true, true, true, true, true, true, true, true, true, false, false, false, false] rfl rfl (by kernel_rfl) (fun _ _ _ h => h.elim) (Or.inl ⟨by rfl, ?_⟩) hHeld ?_ ?_
  rotate_left
  · intro w' s0; obtain ⟨s1, s2, s3⟩ := s0
    go_simp
    with_reducible rfl
  rotate_left
  · simp only [Act.put, List.setIfInBounds_toArray, List.set_cons_zero, List.set_cons_succ, i64_w, i32_w]
    rfl
  refine take_ (i := 9) (N := (some 14)) (v := ?_) (a' := ?_) #[true, true, true, true, true, true, true, true, true, true, false, false, false] rfl rfl (by kernel_rfl) (fun _ _ _ h => h.elim) (Or.inl ⟨by rfl, ?_⟩) hHeld ?_ ?_
  rotate_left
  · intro w' s0; obtain ⟨s1, s2, s3⟩ := s0
    have hcv := Kd.C_string (P := Tryz.prog) (A := A) (c := c) Tryz.underlying48 Tryz.underlying5 Tryz.underlying9 s3
    go_simp
    with_reducible rfl
  rotate_left
  · simp only [Act.put, List.setIfInBounds_toArray, List.set_cons_zero, List.set_cons_succ, i64_w, i32_w]
    rfl
  refine one_ (i := 10) (N := (some 15)) #[true, true, true, true, true, true, true, true, true, true, true, false, false] rfl rfl (by kernel_rfl) (by decide) (fun K hK => ?_)
  refine goes_ Tryz.func292 (by kernel_rfl) rfl #[.int .i64 kind, .string (strOfNums ys)] (by rfl) rfl rfl (by simp only [List.map_toArray, List.map_cons, List.map_nil]; rfl) ?_
  refine (PSes.toy_Sum.calls k kind (strOfNums ys) r _ HS.out).mono ?_
  rintro e wa ⟨rfl, hb⟩
  refine ⟨_, rfl, ?_⟩
  have HBa := Aside0.mk (HB8.out.trans (Below.mono hb HB8.out.size))
  have HDa := Aside0.mk (blk_below HD8.out hb)
  have HRa := Aside0.mk (Kd.C_below HR8.out hb)
  refine hK.out _ _ ⟨(blk_cell HDa.out 0).trans rfl, (blk_cell HDa.out 1).trans rfl, HRa.out⟩ (fun hHeld => ?_)
  clear hK K hb
  refine norm_ (a' := ?_) ?_ ?_
  rotate_left
  · simp only [Act.put, List.setIfInBounds_toArray, List.set_cons_zero, List.set_cons_succ]
    rfl
  refine one_ (i := 11) (N := (some 16)) #[true, true, true, true, true, true, true, true, true, true, true, true, false] rfl rfl (by kernel_rfl) (by decide) (fun K hK => ?_)
  refine step_append_str (by rfl) rfl (.tmp 5) (.tmp 15) 48 9 5 rfl Tryz.underlying48 Tryz.underlying9 info_u8 r (by rfl) (by rfl) (by omega) ?_
  intro v1 wb hown hb
  have HBb := Aside0.mk (HBa.out.trans (Below.mono hb HBa.out.size))
  have HOb := Aside0.mk (Kd.R_lower hown HBa.out.size)
  have HDb := Aside0.mk (blk_below HDa.out hb)
  have HRb := Aside0.mk (Kd.C_below HRa.out hb)
  refine hK.out _ _ ⟨(blk_cell HDb.out 0).trans rfl, (blk_cell HDb.out 1).trans rfl, HRb.out⟩ (fun hHeld => ?_)
  clear hK K hb hown
  refine norm_ (a' := ?_) ?_ ?_
  rotate_left
  · simp only [Act.put, List.setIfInBounds_toArray, List.set_cons_zero, List.set_cons_succ]
    rfl
  refine pure_ (i := 12) (N := (some 4)) (v := ?_) (a' := ?_) #[true, true, true, true, true, true, true, true, true, true, true, true, true] rfl rfl (by kernel_rfl) (fun _ _ _ h => h.elim) (Or.inl ⟨by rfl, ?_⟩) ?_ ?_
  rotate_left
  · intro w'
    go_simp
    with_reducible rfl
  rotate_left
  · simp only [Act.put, List.setIfInBounds_toArray, List.set_cons_zero, List.set_cons_succ, i64_w, i32_w]
    rfl
  refine done_ (by kernel_rfl) ?_
  refine NoPanic.normal ?_
  go_wp2
  go_ret
  exact ⟨v1, rfl, HOb.out, HBb.out⟩

/-! The tail of a step that tells a text. -/
set_option maxHeartbeats 4000000 in
theorem text_calls (A : Option Addr) (c : Nat) (bs : List Int) (w : World) (hr : (Kd.int .u8).C w A bs.length bs) :
    Calls Tryz.prog 37 #[.slice A bs.length c, .nilIface] w fun e w' => e = .returned (.tuple #[.string (strOfNums bs), .bool true]) ∧ Below w.heap.size w w' := by
  have hcv := Kd.C_string (P := Tryz.prog) (A := A) (c := c) Tryz.underlying48 Tryz.underlying5 Tryz.underlying9 hr
  clear hr
  go_enter Tryz.func37, Tryz.ntmps37
  go_wp2
  go_ret2
  exact ⟨rfl, Below.refl _ _⟩
end Go.Proofs.YtmkbebincjppnaaGreatDoor
