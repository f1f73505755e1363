/- The doors of the cache. -/
import Derived.Test.YtmkbebincjppnaaGreatDoorMg
namespace Go.Proofs.YtmkbebincjppnaaGreatDoor
open Go.RowKit Go.MuLone Go.Proofs.YtmkbebincjppnaaGreatDoorW.PrintWords Go.Proofs.YtmkbebincjppnaaGreatDoorW.PrintLast Go.Proofs.YtmkbebincjppnaaGreatDoorW.PrintMore Go.Proofs.YtmkbebincjppnaaGreatDoor.PLib
set_option linter.unusedVariables false
set_option linter.unusedSimpArgs false

set_option maxHeartbeats 4000000 in
theorem new_calls (w : World) (base : Nat) (hbase : base ≤ w.heap.size) :
    Calls Tryz.prog 79 #[] w fun e w' => ∃ h, e = .returned (.pointer (some ⟨h, 0, none⟩)) ∧ Ca w' base h (.slice none 0 0) [] 0 false 0 ∧ Below w.heap.size w w' := by
  have hu := Tryz.underlying242
  have HB := Aside0.mk (Below.refl w.heap.size w)
  go_enter Tryz.func79, Tryz.ntmps79
  go_wp2_with ((with_reducible refine gate_dst (N := 2) rfl ?_); refine box_event ?hg (N := 2) ?hd (cs := #[.slice none 0 0, .int .i64 0, .bool false, .int .i32 0, .int .u32 0, .pointer none, .int .u16 0]) (t := 242) ?hr ?_; (case hd => rfl); (case hg => rfl); (case hr => first | (go_simp; done) | (go_simp; rfl)); intro gb hgb w5 hbox hb; have HX := Aside0.mk hbox; have HB5 := Aside0.mk hb; have HGE := Aside0.mk hgb; clear hbox hb hgb)
  go_ret
  exact ⟨gb, rfl, ⟨HX.out, by rw [HGE.out]; exact hbase, Kd.R_nil _ _ _ _ _⟩, HB5.out⟩

theorem zcell {w : World} {g : Nat} {u : Value} (h : w.heap[g]? = some (.cells #[u] 87 (0, 0))) : w.cell? ⟨g, 0, none⟩ = some u := (blk_cell h 0).trans rfl

set_option maxHeartbeats 4000000 in
theorem zNew_calls (w : World) (base : Nat) (hbase : base ≤ w.heap.size) :
    Calls Tryz.prog 28 #[] w fun e w' => ∃ h, e = .returned (.agg #[.pointer (some ⟨h, 0, none⟩)]) ∧ Ca w' base h (.slice none 0 0) [] 0 false 0 ∧ Below w.heap.size w w' := by
  have hu := Tryz.underlying87
  go_enter Tryz.func28, Tryz.ntmps28
  go_wp2_with (first
    | ((with_reducible refine gate_dst (N := 0) rfl ?_); refine box_event ?hg (N := 0) ?hd (cs := #[.pointer none]) (t := 87) ?hr ?_; (case hd => rfl); (case hg => rfl); (case hr => first | (go_simp; done) | (go_simp; rfl)); intro gb hgb w5 hbox hb; have HX := Aside0.mk hbox; have HB5 := Aside0.mk hb; have HGE := Aside0.mk hgb; clear hbox hb hgb)
    | (go_at_call 79; refine (new_calls _ base (Nat.le_trans hbase HB5.out.size)).mono ?_; rintro e w6 ⟨h, rfl, hc, hb⟩; have HX6 := Aside0.mk (blk_below HX.out hb); have HC := Aside0.mk hc; have HB6 := Aside0.mk (HB5.out.trans (Below.mono hb HB5.out.size)); clear hc hb; have z0 := zcell HX6.out; have z1 := blk_frozen HX6.out 0))
  have hgh : h ≠ gb := fun e => by subst e; exact absurd HX6.out (by rw [HC.out.blk]; simp)
  refine bodyPost_ret (results_cell_row rfl _ _ gb 87 #[.pointer (some ⟨h, 0, none⟩)] (0, 0) _ rfl (blk_put HX6.out 0 _ rfl) Tryz.underlying87 rfl (by kernel_rfl)) rfl ?_
  exact ⟨h, rfl, ⟨blk_far (p := ⟨gb, 0, none⟩) HC.out.blk hgh _, HC.out.ge, Kd.R_set HC.out.row HX6.out (by decide) 0 _⟩, below_set HB6.out (by rw [HGE.out]; exact Nat.le_refl _)⟩

set_option maxHeartbeats 4000000 in
theorem zPush_calls (h : Nat) (v : Value) (n c : Nat) (ep sq ty : Int) (cl : Bool) (w : World) (Q : Ending → World → Prop)
    (hq : ∀ w1, Below w.heap.size w w1 → Calls Tryz.prog 80 #[.pointer (some ⟨h, 0, none⟩), v, .int .u16 ep, .int .u16 sq, .int .u8 ty, .bool cl] w1 fun e w' => e = .returned .nilIface ∧ Q e w') :
    Calls Tryz.prog 29 #[.agg #[.pointer (some ⟨h, 0, none⟩)], v, .int .u16 ep, .int .u16 sq, .int .u8 ty, .bool cl] w fun e w' => e = .returned .nilIface ∧ Q e w' := by
  have hu := Tryz.underlying87
  go_enter Tryz.func29, Tryz.ntmps29
  go_wp2_with (first
    | ((with_reducible refine gate_dst (N := 6) rfl ?_); refine box_event ?hg (N := 6) ?hd (cs := #[.pointer (some ⟨h, 0, none⟩)]) (t := 87) ?hr ?_; (case hd => rfl); (case hg => rfl); (case hr => first | (go_simp; done) | (go_simp; rfl)); intro gb hgb w5 hbox hb; have z0 := zcell hbox; have HB5 := Aside0.mk hb; clear hbox hb hgb)
    | (go_at_call 80; refine (hq _ HB5.out).mono ?_; rintro e w6 ⟨rfl, hQ⟩; have HQ := Aside0.mk hQ; clear hQ))
  go_ret
  exact ⟨rfl, HQ.out⟩

set_option maxHeartbeats 4000000 in
theorem zFinish_calls (h : Nat) (w : World) (Q : Ending → World → Prop)
    (hq : ∀ w1, Below w.heap.size w w1 → Calls Tryz.prog 81 #[.pointer (some ⟨h, 0, none⟩)] w1 fun e w' => e = .returned (.tuple #[]) ∧ Q e w') :
    Calls Tryz.prog 30 #[.agg #[.pointer (some ⟨h, 0, none⟩)]] w fun e w' => e = .returned (.tuple #[]) ∧ Q e w' := by
  have hu := Tryz.underlying87
  go_enter Tryz.func30, Tryz.ntmps30
  go_wp2_with (first
    | ((with_reducible refine gate_dst (N := 1) rfl ?_); refine box_event ?hg (N := 1) ?hd (cs := #[.pointer (some ⟨h, 0, none⟩)]) (t := 87) ?hr ?_; (case hd => rfl); (case hg => rfl); (case hr => first | (go_simp; done) | (go_simp; rfl)); intro gb hgb w5 hbox hb; have z0 := zcell hbox; have HB5 := Aside0.mk hb; clear hbox hb hgb)
    | (go_at_call 81; refine (hq _ HB5.out).mono ?_; rintro e w6 ⟨rfl, hQ⟩; have HQ := Aside0.mk hQ; clear hQ))
  refine bodyPost_end (results_none rfl _ _ _) rfl ?_
  exact ⟨rfl, HQ.out⟩

set_option maxHeartbeats 4000000 in
theorem zMerge_calls (h : Nat) (v : Value) (w : World) (Q : Value → World → Prop)
    (hq : ∀ w1, Below w.heap.size w w1 → Calls Tryz.prog 84 #[.pointer (some ⟨h, 0, none⟩), v] w1 fun e w' => ∃ u, e = .returned u ∧ Q u w') :
    Calls Tryz.prog 33 #[.agg #[.pointer (some ⟨h, 0, none⟩)], v] w fun e w' => ∃ u, e = .returned u ∧ Q u w' := by
  have hu := Tryz.underlying87
  go_enter Tryz.func33, Tryz.ntmps33
  go_wp2_with (first
    | ((with_reducible refine gate_dst (N := 2) rfl ?_); refine box_event ?hg (N := 2) ?hd (cs := #[.pointer (some ⟨h, 0, none⟩)]) (t := 87) ?hr ?_; (case hd => rfl); (case hg => rfl); (case hr => first | (go_simp; done) | (go_simp; rfl)); intro gb hgb w5 hbox hb; have z0 := zcell hbox; have HB5 := Aside0.mk hb; clear hbox hb hgb)
    | (go_at_call 84; refine (hq _ HB5.out).mono ?_; rintro e w6 ⟨u, rfl, hQ⟩; have HQ := Aside0.mk hQ; clear hQ))
  go_ret
  exact ⟨u, rfl, HQ.out⟩
end Go.Proofs.YtmkbebincjppnaaGreatDoor
