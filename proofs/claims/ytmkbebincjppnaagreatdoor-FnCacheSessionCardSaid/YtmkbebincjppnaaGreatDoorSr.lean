/- laws.FnCacheSession returns true whatever its arguments, and they read as before: out of the walk. -/
import Derived.Test.YtmkbebincjppnaaGreatDoorLs
import Derived.Test.YtmkbebincjppnaaGreatDoorOp
import Derived.Test.YtmkbebincjppnaaGreatDoorDm
import Derived.Test.YtmkbebincjppnaaGreatDoorRows
import Derived.Test.YtmkbebincjppnaaGreatDoorChecked
import Derived.ProofKit
import Derived.LaidMore
import Derived.OpenShut
import Derived.Stop.Joined
import Derived.Carry
import Derived.SliceStrings
namespace Go.Proofs.YtmkbebincjppnaaGreatDoor
open Go.ChangeShapes Go.WideShapes Go.ChangeAt Go.WideMaps Go.WideElems Go.RowKit Go.Deep Go.Proofs.YtmkbebincjppnaaGreatDoorW.PrintWords
set_option linter.unusedVariables false
set_option linter.unusedSimpArgs false

section
variable {H : Type} {enc : TypeId × Value → H} {w : World} {base : Nat} {spare : Nat → Bool} {held : Bool}
theorem strings_open {a : Option Addr} {len cap : Nat} {d : DataW H} {ps : List MemPlace} (h : DataW.Trod enc Tryz.prog w base spare held 29 (.slice a len cap) d ps) : ∃ l : List ByteArray, l.length = len ∧ len ≤ cap ∧ Kd.string.C w a len l := by
  obtain ⟨fuel, hf⟩ := h
  rcases open_strings Tryz.underlying29 Tryz.underlying9 (by kernel_rfl) hf with ⟨hc, _⟩ | ⟨x, n, c, ss, hc, hb, hl, hm, hss, _, hcell, _⟩
  · simp [Value.cells] at hc
    obtain ⟨rfl, rfl, rfl⟩ := hc
    exact ⟨[], rfl, Nat.le_refl _, rfl, by simp, fun h => absurd h (by simp)⟩
  · simp [Value.cells] at hc
    obtain ⟨rfl, rfl, rfl⟩ := hc
    have hle : len ≤ ss.length := by rw [hss]; split <;> omega
    have hlt : (ss.take len).length = len := by rw [List.length_take]; omega
    refine ⟨ss.take len, hlt, hl, ?_⟩
    refine Kd.C_of_reads (d := ByteArray.empty) (h1 := fun _ => rfl) ⟨hlt, by simp only [maxLen] at hm; omega, fun hp => ⟨_, rfl, fun j hj => ?_⟩⟩
    rw [hcell j (by omega)]
    simp [List.getElem?_take, hj]
theorem struct_cells {P : Program} {t : TypeId} {fs : Array Field} {r : Reach} {b0 : Nat} {v : Value} {d : DataW H} {ps : List MemPlace} (ht : P.underlying t = some (.struct fs)) (hone : oneCellFields P fs = true) (hC : P.cellsOf t = fs.size)
    (hv : Value.okWide P w r b0 t v) (h : DataW.Trod enc P w base spare held t v d ps) : ∃ cs, v = .agg cs ∧ cs.size = fs.size ∧ ∀ (j : Nat) (f : Field), fs[j]? = some f → ∃ (u : Value) (y : DataW H × List MemPlace) (n : Nat), cs[j]? = some u ∧ DataW.trod enc P w base spare held n f.type [u] = some y := by
  obtain ⟨cs, rfl, hsz⟩ := okWide_struct ht hv
  obtain ⟨fuel, hf⟩ := h
  obtain ⟨ys, n', hn', hy, hlen, hyl, hfi⟩ := DataW.trod_struct ht hf
  refine ⟨cs, rfl, hsz.trans hC, fun j f hj => ?_⟩
  obtain ⟨ho, hk⟩ := hone_of hone j f hj
  have hjl : j < fs.size := (Array.getElem?_eq_some_iff.1 hj).1
  have hjc : j < cs.toList.length := by rw [Array.length_toList, hsz, hC]; exact hjl
  have h1 := hfi j f hj
  rw [ho, hk] at h1
  have hone' : ((Value.agg cs).cells.toList.drop j).take 1 = [cs.toList[j]'hjc] := by
    show (cs.toList.drop j).take 1 = _
    rw [List.drop_eq_getElem_cons hjc]
    rfl
  rw [hone'] at h1
  have hys : ys[j]? = some (ys[j]'(by omega)) := List.getElem?_eq_getElem (by omega)
  exact ⟨cs.toList[j]'hjc, _, _, by simp, h1.trans hys⟩
set_option maxRecDepth 100000 in
theorem choice_open {r : Reach} {b0 : Nat} {v : Value} {d : DataW H} {ps : List MemPlace} (hv : Value.okWide Tryz.prog w r b0 74 v) (h : DataW.Trod enc Tryz.prog w base spare held 74 v d ps) :
    ∃ k0 k1 k2 k3 k4 k5 k6 : Bool, v = .agg #[.bool k0, .bool k1, .bool k2, .bool k3, .bool k4, .bool k5, .bool k6] := by
  obtain ⟨cs, rfl, hsz, hj⟩ := struct_cells Tryz.underlying74 (by kernel_rfl) (by kernel_rfl) hv h
  obtain ⟨v0, _, _, c0, t0⟩ := hj 0 _ rfl
  obtain ⟨v1, _, _, c1, t1⟩ := hj 1 _ rfl
  obtain ⟨v2, _, _, c2, t2⟩ := hj 2 _ rfl
  obtain ⟨v3, _, _, c3, t3⟩ := hj 3 _ rfl
  obtain ⟨v4, _, _, c4, t4⟩ := hj 4 _ rfl
  obtain ⟨v5, _, _, c5, t5⟩ := hj 5 _ rfl
  obtain ⟨v6, _, _, c6, t6⟩ := hj 6 _ rfl
  obtain ⟨k0, rfl⟩ := cell_bool t0
  obtain ⟨k1, rfl⟩ := cell_bool t1
  obtain ⟨k2, rfl⟩ := cell_bool t2
  obtain ⟨k3, rfl⟩ := cell_bool t3
  obtain ⟨k4, rfl⟩ := cell_bool t4
  obtain ⟨k5, rfl⟩ := cell_bool t5
  obtain ⟨k6, rfl⟩ := cell_bool t6
  refine ⟨k0, k1, k2, k3, k4, k5, k6, congrArg Value.agg ?_⟩
  have h7 : cs.size = 7 := hsz
  apply Array.ext_getElem?
  intro i
  match i with
  | 0 => rw [c0]; rfl
  | 1 => rw [c1]; rfl
  | 2 => rw [c2]; rfl
  | 3 => rw [c3]; rfl
  | 4 => rw [c4]; rfl
  | 5 => rw [c5]; rfl
  | 6 => rw [c6]; rfl
  | i + 7 => rw [Array.getElem?_eq_none (by omega), Array.getElem?_eq_none (by simp)]
end

set_option maxRecDepth 100000 in
theorem liftedSession (os : Os) (started : os.Started) (H : Type) (enc : TypeId × Value → H) :
    ReturnsInHanded {} Tryz.checked os 7 .any (fun w args => (Rows.fnCacheSessionSpec.pre enc Tryz.prog Tryz.f7 [] false w args ∧ laidMetH Tryz.prog Rows.fnCacheSessionRow.laid w) ∧ sizedMet enc Tryz.prog Tryz.f7 (OpenSpec.ofChange Rows.fnCacheSessionSpec) false w args)
      (Rows.fnCacheSessionSpec.post enc Tryz.prog Tryz.f7 false true false false) := by
  refine returnsInHanded_of_change_and (C := Tryz.checked) (X := fun w _ => laidMetH Tryz.prog Rows.fnCacheSessionRow.laid w) (fun _ _ _ hh h => h.of_heap hh) own started (by kernel_rfl) Tryz.func7
    (ChangeSpec.witness_shaped (enc := enc) (C := Tryz.checked) (os := os) (X := fun w _ => laidMetH Tryz.prog Rows.fnCacheSessionRow.laid w) false (World.doorLaid Tryz.prog 1000 os) #[.agg #[.bool false, .bool false, .bool false, .bool false, .bool false, .bool false, .bool false], .slice none 0 0, .int .i64 0, .slice none 0 0] 8 rfl (World.shaped_of_RefB (by kernel_rfl) (by kernel_rfl)) (by kernel_rfl) (by kernel_rfl) (by kernel_rfl) (door_met os _)) ?_
  intro W base args ds gs before hval0 hW _ _ hL _
  have hval : ∀ (j : Nat) t v, Tryz.f7.params[j]? = some t → args[j]? = some v → Value.okWide Tryz.prog W .any base t v := hval0
  have hW' := hW
  obtain ⟨p, q, hA0, hV, rfl, hfz, hnd⟩ := hW
  have hA : DataW.TrodAll enc Tryz.prog W 0 (fun _ => true) true Tryz.f7.params.toList args.toList ds p := hA0
  rw [Tryz.params7] at hA hval
  obtain ⟨v0, vs0, d0, ds0, p0, q0, hargs, rfl, rfl, h0, r0⟩ := trodAll_cons hA
  obtain ⟨v1, vs1, d1, ds1, p1, q1, rfl, rfl, rfl, h1, r1⟩ := trodAll_cons r0
  obtain ⟨v2, vs2, d2, ds2, p2, q2, rfl, rfl, rfl, h2, r2⟩ := trodAll_cons r1
  obtain ⟨v3, vs3, d3, ds3, p3, q3, rfl, rfl, rfl, h3, r3⟩ := trodAll_cons r2
  obtain ⟨rfl, rfl, rfl⟩ := trodAll_nil r3
  obtain rfl : args = #[v0, v1, v2, v3] := by cases args; simp_all
  obtain ⟨rfl, rfl⟩ := trodVars_none hV
  obtain ⟨a1, n1, c1, rfl⟩ := okWide_slice Tryz.underlying29 (hval 1 29 v1 rfl rfl)
  obtain ⟨kd, rfl⟩ := okWide_int Tryz.underlying3 (hval 2 3 v2 rfl rfl)
  obtain ⟨a3, n3, c3, rfl⟩ := okWide_slice Tryz.underlying29 (hval 3 29 v3 rfl rfl)
  obtain ⟨b0, b1, b2, b3, b4, b5, b6, rfl⟩ := choice_open (hval 0 74 v0 rfl rfl) h0
  have k0 := h0
  have k1 := h1
  have k2 := h2
  have k3 := h3
  have lt0 : ∀ x ∈ p0, x.block < W.heap.size := by obtain ⟨m, hm⟩ := k0; exact DataW.trod_lt m _ _ _ hm
  have lt1 : ∀ x ∈ p1, x.block < W.heap.size := by obtain ⟨m, hm⟩ := k1; exact DataW.trod_lt m _ _ _ hm
  have lt2 : ∀ x ∈ p2, x.block < W.heap.size := by obtain ⟨m, hm⟩ := k2; exact DataW.trod_lt m _ _ _ hm
  have lt3 : ∀ x ∈ p3, x.block < W.heap.size := by obtain ⟨m, hm⟩ := k3; exact DataW.trod_lt m _ _ _ hm
  obtain ⟨B, rfl, l1, g1⟩ := strings_open h1
  obtain ⟨M, rfl, l3, g3⟩ := strings_open h3
  clear hA0 hval0
  refine (session_walk b0 b1 b2 b3 b4 b5 b6 a1 a3 c1 c3 B M kd W g1 g3 l1 l3).mono fun e W' ⟨he, bel⟩ => ?_
  subst he
  exact ⟨_, rfl, _, _, _, [], _, [], hW', trodAll_mk1 (shut_bool Tryz.underlying4 _), (trodAll_cons_mk (Below.trod laidOut (by kernel_rfl) (of_decide_eq_true (by kernel_rfl)) k0 bel lt0) (trodAll_cons_mk (Below.trod laidOut (by kernel_rfl) (of_decide_eq_true (by kernel_rfl)) k1 bel lt1) (trodAll_cons_mk (Below.trod laidOut (by kernel_rfl) (of_decide_eq_true (by kernel_rfl)) k2 bel lt2) (trodAll_cons_mk (Below.trod laidOut (by kernel_rfl) (of_decide_eq_true (by kernel_rfl)) k3 bel lt3) trodAll_mk0)))), rfl, bel.frame _, fun h => by cases h⟩

end Go.Proofs.YtmkbebincjppnaaGreatDoor
