/- The cache's session hash: the bytes of what eight rules pull, what is added behind, and the toy hash of all of it. -/
import Derived.Test.YtmkbebincjppnaaGreatDoorHs
import Derived.Test.YtmkbebincjppnaaGreatDoorZp
namespace Go.Proofs.YtmkbebincjppnaaGreatDoor
open Go.RowKit Go.MuLone Go.Proofs.YtmkbebincjppnaaGreatDoorW.PrintWords Go.Proofs.YtmkbebincjppnaaGreatDoorW.PrintLast Go.Proofs.YtmkbebincjppnaaGreatDoorW.PrintMore Go.Proofs.YtmkbebincjppnaaGreatDoor.PLib
set_option linter.unusedVariables false
set_option linter.unusedSimpArgs false

/-! impl.raw: the texts' bytes, each in a row of its own. -/
/-- A slice's three words, as one cell. -/
def kSl : Kd (Option Addr × Nat × Nat) := Kd.scalar (fun t => .slice t.1 t.2.1 t.2.2) (fun _ => rfl)
theorem info_bytes : (Tryz.prog.info? 48).map (fun i => (i.zero, i.size, i.bytes)) = some (some (.slice none 0 0), 1, 24) := by kernel_rfl
/-- The block of a conversion's row. -/
def Raws (w : World) (s : ByteArray) (t : Option Addr × Nat × Nat) : Prop := ∃ (b : Nat) (cs : Array Value) (fr : Nat × Nat), t.1 = some ⟨b, 0, none⟩ ∧ t.2.1 = s.size ∧ w.heap[b]? = some (Obj.cells cs 5 fr) ∧ ∀ j, j < s.size → cs[j]? = some (.int .u8 ((bytesOf s).getD j 0))
theorem Raws.blk {w W : World} {s : ByteArray} {t : Option Addr × Nat × Nat} (h : Raws w s t) (hb : ∀ (b : Nat) (cs : Array Value) (fr : Nat × Nat), w.heap[b]? = some (Obj.cells cs 5 fr) → W.heap[b]? = w.heap[b]?) : Raws W s t := by
  obtain ⟨b, cs, fr, h1, h2, h3, h4⟩ := h
  exact ⟨b, cs, fr, h1, h2, (hb b cs fr h3).trans h3, h4⟩
theorem Raws.reads {w : World} {s : ByteArray} {t : Option Addr × Nat × Nat} (h : Raws w s t) (hs : s.size ≤ 9223372036854775807) : (Kd.int .u8).C w t.1 (bytesOf s).length (bytesOf s) := by
  obtain ⟨b, cs, fr, h1, h2, h3, h4⟩ := h
  rw [h1]
  refine Kd.C_of_reads (d := (0 : Int)) (h1 := fun _ => rfl) ⟨rfl, by rw [bytesOf_length]; exact hs, fun hp => ⟨_, rfl, fun j hj => ?_⟩⟩
  rw [bytesOf_length] at hj
  rw [add_plain]
  have h5 := h4 j hj
  simp [World.cell?, h3, h5]
section
variable {P : Program} {ops : Array Oper} {rest : List Oper} {o : Oper} {a : Act} {Q : Exit → Act → World → Prop}
theorem raws_event {W : World} (hgd : o.guard = none) {N : Tmp} (_hd : o.dst = some N) (src dst : TypeId) (x : Operand) (ho : o.op = .convert src dst x) (s : ByteArray) {u : TypeDesc} (hx : a.eval x = .string s)
    (hs : P.underlying src = some u) (hd : P.underlying dst = some (.slice 5)) (he : P.underlying 5 = some (.int .u8)) (hl : s.size ≤ 9223372036854775807)
    (h : ∀ g c w1, g = W.heap.size → Raws w1 s (some ⟨g, 0, none⟩, s.size, c) → Below W.heap.size W w1 → wpList P ops Q rest (a.put o.dst (.slice (some ⟨g, 0, none⟩) s.size c)) w1) : wpList P ops Q (o :: rest) a W := by
  have hr := print_bytes (P := P) src dst 5 hs hd he s W
  have h3 := Lib.bytesWorld_at_new W 5 s
  have h0 := bytes_reads W 5 s hl
  refine Kd.event_run hgd ?_ (h W.heap.size (grownCap W s.size 0 5) _ rfl ⟨W.heap.size, _, _, rfl, rfl, h3, fun j hj => ?_⟩ (bytes_below (Below.refl _ _) (Nat.le_refl _) _ _))
  · simp [execOp, ho, hx, hr]
  · obtain ⟨ad, e1, hc⟩ := h0.2.2 (by omega)
    injection e1 with e1
    subst e1
    have h2 := hc j hj
    rw [add_plain] at h2
    simpa [World.cell?, h3] using h2
end

set_option maxHeartbeats 4000000 in
set_option maxRecDepth 100000 in
theorem raw_calls (A0 : Option Addr) (c0 : Nat) (l : List ByteArray) (w : World) (hr : Kd.string.C w A0 l.length l) (hl : l.length ≤ 1000) (hs : ∀ s, s ∈ l → s.size ≤ 9223372036854775807) :
    Calls Tryz.prog 40 #[.slice A0 l.length c0] w fun e w' => ∃ (v : Value) (ts : List (Option Addr × Nat × Nat)), e = .returned v ∧ kSl.R 48 w' w.heap.size (fun _ => True) v ts ∧ ts.length = l.length ∧ (∀ (i : Nat) (s : ByteArray), l[i]? = some s → ∃ t, ts[i]? = some t ∧ Raws w' s t) ∧ Below w.heap.size w w' := by
  have HR := Aside0.mk hr
  have HS := Aside0.mk hs
  clear hr hs
  go_enter Tryz.func40, Tryz.ntmps40
  go_wp2
  go_loopg [3, 8] l.length (fun gk v3 v8 w' => ∃ (i : Nat) (ts : List (Option Addr × Nat × Nat)), v8 = .int .i64 i ∧ Aside0 (gk = l.length - i) ∧ Aside0 (i ≤ l.length) ∧ Aside0 (ts.length = i) ∧ Aside0 (Below w.heap.size w w') ∧ Aside0 (kSl.R 48 w' w.heap.size (fun _ => True) v3 ts) ∧ Aside0 (∀ (j : Nat) (s : ByteArray), j < i → l[j]? = some s → ∃ t, ts[j]? = some t ∧ Raws w' s t))
  case atStart => exact ⟨0, [], rfl, ⟨by omega⟩, ⟨by omega⟩, ⟨rfl⟩, ⟨Below.refl _ _⟩, ⟨Kd.R_nil _ _ _ _ _⟩, ⟨fun j s hj => absurd hj (by omega)⟩⟩
  case round =>
    obtain ⟨i, ts, rfl, HG, HI, HTL, HB, HO, HT⟩ := hrel
    by_cases hlt : i < l.length
    · have hltb : decide ((i : Int) < (l.length : Int)) = true := decide_eq_true (by omega)
      have i0 : (0 : Int) ≤ (i : Int) := by omega
      have i1 : (i : Int) < (l.length : Int) := by omega
      obtain ⟨ad, rfl, hc⟩ := Kd.at_string HR.out (i : Int) i0 i1
      have hrd : rdOf ByteArray.empty l (i : Int) = l[i] := by simp [rdOf, hlt]
      rw [hrd] at hc
      simp only [Int.toNat_natCast] at hc
      replace hc := (HB.out.cell (World.block_lt_of_cell? w _ hc)).trans hc
      have HSZ := Aside0.mk (HS.out _ (List.getElem_mem hlt))
      have HGI := Aside0.mk (List.getElem?_eq_getElem hlt)
      have HLL := Aside0.mk (show (ts.length + 1) * 24 ≤ 140737488355328 by rw [HTL.out]; omega)
      clear hrd
      generalize l[i] = s at *
      have i0t := eq_true i0
      have i1t := eq_true i1
      go_wp2_with (first
        | ((with_reducible refine gate_dst (N := 14) rfl ?_); refine raws_event rfl (N := 14) rfl 9 48 (.tmp 13) rfl s (by rfl) Tryz.underlying9 Tryz.underlying48 Tryz.underlying5 HSZ.out ?_; intro gb cb w1 hgb hraw hb; have HO1 := Aside0.mk (Kd.R_below HO.out hb); have HB1 := Aside0.mk (HB.out.trans (Below.mono hb HB.out.size)); have HW1 := Aside0.mk hraw; have HT1 := Aside0.mk (fun j s' hj hs' => (HT.out j s' hj hs').imp fun t ht => (⟨ht.1, ht.2.blk (fun b cs fr h3 => hb.block b (blk_lt h3))⟩ : ts[j]? = some t ∧ Raws w1 s' t)); clear hraw hb hgb)
        | ((with_reducible refine gate_dst (N := 16) rfl ?_); refine Kd.R_append kSl (w0 := w) w.heap.size rfl (.tmp 12) (.tmp 15) 115 48 (.slice none 0 0) 24 rfl Tryz.underlying115 info_bytes rfl (by decide) (by omega) u3 ts (some ⟨gb, 0, none⟩, s.size, cb) [.slice (some ⟨gb, 0, none⟩) s.size cb] (fun _ => True) (fun _ => False) rfl rfl (by rfl) (fun _ hk => hk.elim) (fun _ _ => trivial) HO1.out HB1.out HB1.out.size HLL.out ?_; intro v2 w2 ho hb hg hat; have HO2 := Aside0.mk ho; have HB2 := Aside0.mk hb; have HKK := Aside0.mk (show ∀ (b : Nat) (cs : Array Value) (fr : Nat × Nat), w1.heap[b]? = some (Obj.cells cs 5 fr) → w2.heap[b]? = w1.heap[b]? from fun b cs fr h3 => hg.block b (blk_lt h3) (fun e => by obtain ⟨inner, hown⟩ := Kd.R_own HO1.out; obtain ⟨cells, hcc⟩ := own_typed hown b e.symm; rw [h3] at hcc; injection hcc with hcc; injection hcc with _ hcc; exact absurd hcc (by decide))); clear ho hb hg hat))
      go_roundg (l.length - (i + 1))
      case measure => have := HG.out; omega
      case rel => exact ⟨i + 1, ts ++ [(some ⟨gb, 0, none⟩, s.size, cb)], by go_num, ⟨rfl⟩, ⟨by omega⟩, ⟨by simp [HTL.out]⟩, HB2, HO2, ⟨fun j s' hj hs' => by
        by_cases h : j < i
        · obtain ⟨t, ht, hw⟩ := HT1.out j s' h hs'
          exact ⟨t, by rw [List.getElem?_append_left (by rw [HTL.out]; exact h)]; exact ht, hw.blk HKK.out⟩
        · obtain rfl : j = i := by omega
          rw [HGI.out] at hs'
          obtain rfl := Option.some.inj hs'
          exact ⟨_, by rw [List.getElem?_append_right (by rw [HTL.out]; exact Nat.le_refl _), HTL.out, Nat.sub_self]; rfl, HW1.out.blk HKK.out⟩⟩⟩
    · have hltb : decide ((i : Int) < (l.length : Int)) = false := decide_eq_false (by omega)
      have hil : i = l.length := by have := HI.out; omega
      subst hil
      go_wp2
      go_ret
      exact ⟨_, ts, rfl, HO.out, HTL.out, fun j s hj => HT.out j s (List.getElem?_eq_some_iff.1 hj).1 hj, HB.out⟩

/-! The rules. -/
def rcells (r : Rl) : List Value := [.int .u8 r.f0, .int .u16 r.f1, .bool r.f2, .bool r.f3]
theorem rcells_at (p : Rl) (u : Value) (i : Nat) (h : (rcells p)[i]? = some u) : ∀ (rs : List Rl) (j : Nat), rs[j]? = some p → (rs.flatMap rcells)[j * 4 + i]? = some u
  | [], j, hj => by simp at hj
  | r :: rs, 0, hj => by
    obtain rfl : r = p := by simpa using hj
    rw [List.flatMap_cons, List.getElem?_append_left]
    · simpa using h
    · have := (List.getElem?_eq_some_iff.1 h).1
      omega
  | r :: rs, j + 1, hj => by
    have ih := rcells_at p u i h rs j (by simpa using hj)
    rw [List.flatMap_cons, List.getElem?_append_right (by simp [rcells]; omega)]
    have e : (j + 1) * 4 + i - (rcells r).length = j * 4 + i := by simp [rcells]; omega
    rw [e]
    exact ih
/-- A row of rules, laid cell by cell. -/
theorem St.rules {w : World} {g : Nat} {rs : List Rl} (h : w.heap[g]? = some (.cells (rs.flatMap rcells).toArray 96 (0, 0))) (hl : rs.length ≤ 1000) : St kRl w (some ⟨g, 0, none⟩) rs := by
  intro W hk
  have hb := hk.keep h (by decide) (by decide)
  refine ⟨rfl, by omega, fun _ => ⟨_, rfl, fun j p hj => ⟨rcells p, rfl, k96_mk W _, fun i u hi => ?_⟩⟩⟩
  rw [add_plain, blk_cell hb]
  have := rcells_at p u i hi rs j hj
  rw [show j * kRl.sz + i = j * 4 + i from rfl]
  simpa using this
section
variable {P : Program} {ops : Array Oper} {rest : List Oper} {o : Oper} {a : Act} {Q : Exit → Act → World → Prop}
theorem row_event8 {W : World} (hgd : o.guard = none) {N : Tmp} (_hd : o.dst = some N) {cs : Array Value} {t : TypeId}
    (hrun : (execOp a.eval o).run P W = .ok (.value (.slice (some ⟨W.heap.size, 0, none⟩) 8 8)) (W.alloc (.cells cs t (0, 0))))
    (h : ∀ g, g = W.heap.size → ∀ w1, w1.heap[g]? = some (.cells cs t (0, 0)) → Below W.heap.size W w1 → wpList P ops Q rest (a.put o.dst (.slice (some ⟨g, 0, none⟩) 8 8)) w1) : wpList P ops Q (o :: rest) a W :=
  Kd.event_run hgd hrun (h _ rfl _ (blk_new W _) (below_alloc (Below.refl _ _) _))
end
def sessRules (ep : Int) : List Rl := [⟨1, ep, true, false⟩, ⟨2, ep, false, false⟩, ⟨11, ep, false, false⟩, ⟨12, ep, false, false⟩, ⟨13, ep, false, false⟩, ⟨14, ep, false, false⟩, ⟨11, ep, true, false⟩, ⟨16, ep, true, false⟩]
def moreTo (l : List ByteArray) : Nat → List Int
  | 0 => []
  | i + 1 => moreTo l i ++ bytesOf (l.getD i ⟨#[]⟩)
theorem moreTo_le {l : List ByteArray} {m : Nat} (hd : ∀ x, x ∈ l → x.size ≤ m) : ∀ i, (moreTo l i).length ≤ i * m
  | 0 => by simp [moreTo]
  | i + 1 => by
    have h1 := moreTo_le hd i
    have h2 : (bytesOf (l.getD i ⟨#[]⟩)).length ≤ m := by
      rw [bytesOf_length]
      by_cases h : i < l.length
      · rw [show l.getD i ⟨#[]⟩ = l[i] by simp [h]]
        exact hd _ (List.getElem_mem h)
      · rw [show l.getD i ⟨#[]⟩ = ⟨#[]⟩ by simp [h]]
        exact Nat.zero_le _
    rw [moreTo, List.length_append, Nat.add_mul]
    omega
def sessBytes (its : List It) (ep : Int) (l : List ByteArray) : List Int := mergeTo its (sessRules ep) 8 ++ moreTo l l.length

theorem method_write (d : Nat) (w : World) : (method 647 215 (.pointer (some ⟨d, 0, none⟩)) "Write").run Tryz.prog w = .ok (291, .pointer (some ⟨d, 0, none⟩)) w := by kernel_rfl
theorem method_sum (d : Nat) (w : World) : (method 647 215 (.pointer (some ⟨d, 0, none⟩)) "Sum").run Tryz.prog w = .ok (290, .pointer (some ⟨d, 0, none⟩)) w := by kernel_rfl

theorem pull8 (base h : Nat) (v : Value) (its : List It) (sz : Int) (done : Bool) (Ar : Option Addr) (cr : Nat) (rs : List Rl) (hn : rs.length = 8) (w : World)
    (hC : Ca w base h v its sz done 0) (hbase : base ≤ w.heap.size) (hr : St kRl w Ar rs) (hits : its.length < 1000000) :
    Calls Tryz.prog 83 #[.pointer (some ⟨h, 0, none⟩), .slice Ar 8 cr] w fun e w' =>
      ∃ (o : Nat) (P : Nat → Nat), e = .returned (.slice (some ⟨o, 0, none⟩) 8 8) ∧ Below w.heap.size w w' ∧
        w'.heap[o]? = some (.cells (outs P 8 (fun j => pick its (rs.getD j z96))) 158 (0, 0)) ∧
        (∀ W0, Ca W0 base h v its sz done 0 → Below W0.heap.size W0 w → ∀ k (hk : k < its.length), ∃ dv, W0.heap[P k]? = some (.cells #[.int .u8 its[k].ty, .bool its[k].cl, .int .u16 its[k].ep, .int .u16 its[k].sq, dv] 162 (0, 0)) ∧ (Kd.int .u8).R 5 W0 base (fun _ => True) dv its[k].dat) := by
  have := pull_calls base h v its sz done Ar cr rs w hC hbase hr (by omega) hits
  rwa [hn] at this

set_option maxHeartbeats 8000000 in
set_option maxRecDepth 100000 in
theorem shash_calls (base h : Nat) (v : Value) (its : List It) (sz : Int) (done : Bool) (g : Nat) (kind ep : Int) (Am : Option Addr) (cm : Nat) (ts : List (Option Addr × Nat × Nat)) (l : List ByteArray) (w : World) (k : Nat) (r : ByteArray)
    (hC : Ca w base h v its sz done 0) (hbase : base ≤ w.heap.size) (hits : its.length < 1000000) (hd : ∀ x, x ∈ its → x.dat.length ≤ 2000) (hg : w.heap[g]? = some (.cells #[.int .i64 kind] 3 (0, 0)))
    (hm : kSl.C w Am ts.length ts) (htl : ts.length = l.length) (hraw : ∀ (i : Nat) (s : ByteArray), l[i]? = some s → ∃ t, ts[i]? = some t ∧ Raws w s t) (hl : l.length ≤ 1000) (hs : ∀ s, s ∈ l → s.size ≤ 2000)
    (hsum : PSes.toy_Sum.f k kind (strOfNums (sessBytes its ep l)) = some r) (hrl : r.size ≤ 1000) :
    Calls Tryz.prog 97 #[.pointer (some ⟨h, 0, none⟩), .func (.func 98) #[] #[.pointer (some ⟨g, 0, none⟩)], .int .u16 ep, .slice Am ts.length cm] w fun e w' =>
      ∃ A c, e = .returned (.tuple #[.slice A (bytesOf r).length c, .nilIface]) ∧ (Kd.int .u8).C w' A (bytesOf r).length (bytesOf r) ∧ Below w.heap.size w w' := by
  obtain ⟨rs, hrs⟩ : ∃ rs, rs = sessRules ep := ⟨_, rfl⟩
  have hn8 : rs.length = 8 := by rw [hrs]; rfl
  have HC := Aside0.mk hC
  have HD := Aside0.mk hd
  have HG := Aside0.mk hg
  have HM := Aside0.mk hm
  have HRW := Aside0.mk hraw
  have HSS := Aside0.mk hs
  have HTL := Aside0.mk htl
  have HLL0 := Aside0.mk hl
  have HBA := Aside0.mk hbase
  have HN8 := Aside0.mk hn8
  have HSU := Aside0.mk (show PSes.toy_Sum.f k kind (strOfNums (mergeTo its rs 8 ++ moreTo l ts.length)) = some r by rw [hrs, htl]; exact hsum)
  have HRS := Aside0.mk hrs
  have hmw := method_write
  have hms := method_sum
  have hpn : ∀ (W : World) (p : Option Addr), (binOp .eql 158 (.pointer p) (.pointer none)).run Tryz.prog W = .ok (.bool p.isNone) W := fun W p => by cases p <;> rfl
  clear hC hd hg hm hraw hs hsum hrs hn8 htl hl hbase
  go_enter Tryz.func97, Tryz.ntmps97
  go_wp2_with (first
    | ((with_reducible refine gate_dst (N := 19) rfl ?_); refine Kd.R_lit (Kd.int .u8) (w0 := w) w.heap.size 5 rfl (N := 19) rfl (xs := []) (inner := []) (ok := fun _ => True) (okp := fun _ => False) ?hr (Reps.none _ _) (fun _ hk => hk.elim) trivial ?hb ?hs (by simp) ?_; (case hr => first | (go_simp; done) | (go_simp; rfl)); (case hb => exact Below.refl _ _); (case hs => exact Nat.le_refl _); intro v1 w1 ho hb hg hat; have HO := Aside0.mk ho; have HB1 := Aside0.mk hb; clear ho hb hg hat)
    | ((with_reducible refine gate_dst (N := 37) rfl ?_); refine row_event8 ?hg (N := 37) ?hd (cs := #[.int .u8 1, .int .u16 ep, .bool true, .bool false, .int .u8 2, .int .u16 ep, .bool false, .bool false, .int .u8 11, .int .u16 ep, .bool false, .bool false, .int .u8 12, .int .u16 ep, .bool false, .bool false, .int .u8 13, .int .u16 ep, .bool false, .bool false, .int .u8 14, .int .u16 ep, .bool false, .bool false, .int .u8 11, .int .u16 ep, .bool true, .bool false, .int .u8 16, .int .u16 ep, .bool true, .bool false]) (t := 96) ?hr ?_; (case hd => rfl); (case hg => rfl); (case hr => first | (go_simp; done) | (go_simp; rfl)); intro gs hgs w2 hbox hb; have HS2 := Aside0.mk (show St kRl w2 (some ⟨gs, 0, none⟩) rs from by rw [HRS.out]; exact St.rules (rs := sessRules ep) hbox (show 8 ≤ 1000 by decide)); have HB2 := Aside0.mk (HB1.out.trans (Below.mono hb HB1.out.size)); have HO2 := Aside0.mk (Kd.R_below HO.out hb); clear hbox hb hgs HO HB1)
    | (go_at_call 83; go_loud (refine (pull8 base h v its sz done (some ⟨gs, 0, none⟩) 8 rs HN8.out _ (HC.out.below HB2.out) (Nat.le_trans HBA.out HB2.out.size) HS2.out hits).mono ?_; rintro e w3 ⟨o, P, rfl, hb, ho, hp⟩; have HO3 := Aside0.mk (Kd.R_below HO2.out hb); have HB3 := Aside0.mk (HB2.out.trans (Below.mono hb HB2.out.size)); have HOO := Aside0.mk ho; have HPP := Aside0.mk (hp w HC.out HB2.out); clear hb ho hp HO2 HB2)))
  go_loopg [10, 41] 8 (fun gk v10 v41 w' => ∃ i : Nat, v41 = .int .i64 i ∧ Aside0 (gk = 8 - i) ∧ Aside0 (i ≤ 8) ∧ Aside0 (Below w.heap.size w w') ∧ Aside0 ((Kd.int .u8).R 5 w' w.heap.size (fun _ => True) v10 (mergeTo its rs i)) ∧
    Aside0 (w'.heap[o]? = some (.cells (outs P 8 (fun j => pick its (rs.getD j z96))) 158 (0, 0))))
  case atStart => exact ⟨0, rfl, ⟨by omega⟩, ⟨by omega⟩, HB3, HO3, HOO⟩
  case round =>
    obtain ⟨i, rfl, HGK, HI, HB4, HO4, HOO4⟩ := hrel
    by_cases hlt : i < 8
    · have hltb : decide ((i : Int) < 8) = true := decide_eq_true (by omega)
      have i0 : (0 : Int) ≤ (i : Int) := by omega
      have i1 : (i : Int) < 8 := by omega
      have co : wr.cell? ⟨o, i, none⟩ = some (ptrOf P (pick its (rs.getD i z96))) := (blk_cell HOO4.out i).trans (outs_at P 8 _ i hlt)
      have hstep : mergeTo its rs (i + 1) = mergeTo its rs i ++ datOf its (pick its (rs.getD i z96)) := rfl
      have hml := mergeTo_le HD.out rs i
      cases hpk : pick its (rs.getD i z96) with
      | none =>
        rw [hpk] at co hstep
        simp only [ptrOf] at co
        simp only [datOf, List.append_nil] at hstep
        have HST := Aside0.mk hstep
        clear hstep hml
        go_wp2
        go_roundg (8 - (i + 1))
        case measure => have := HGK.out; omega
        case rel => exact ⟨i + 1, by go_num, ⟨rfl⟩, ⟨by omega⟩, HB4, ⟨by rw [HST.out]; exact HO4.out⟩, HOO4⟩
      | some j =>
        rw [hpk] at co hstep
        simp only [ptrOf] at co
        have hjl := (pickTo_lt its _ _ j hpk).2
        obtain ⟨dv, hbj, hdj⟩ := HPP.out j hjl
        have hdl := HD.out _ (List.getElem_mem hjl)
        simp only [datOf] at hstep
        rw [List.getElem?_eq_getElem hjl, Option.getD_some] at hstep
        obtain ⟨dA, dc, rfl⟩ := Kd.R_slice hdj
        have s4 := (blk_cell (blk_below hbj HB4.out) 4).trans rfl
        have HDJ := Aside0.mk ((Kd.R_reads' (Kd.R_below hdj HB4.out)).2.2)
        have HST := Aside0.mk hstep
        have HLL := Aside0.mk (show ((mergeTo its rs i).length + its[j].dat.length) * 1 ≤ 140737488355328 by omega)
        clear hstep hml hbj hdj hdl
        generalize its[j] = itj at *
        go_wp2_with ((with_reducible refine gate_dst (N := 52) rfl ?_); refine Kd.R_append_row (Value.int .u8) (0 : Int) (h1 := fun _ => rfl) (w0 := w) w.heap.size rfl (.tmp 47) (.tmp 51) 48 5 (.int .u8 0) 1 rfl Tryz.underlying48 info_u8 rfl (by omega) u10 (mergeTo its rs i) itj.dat dA itj.dat.length dc (fun _ => True) rfl rfl (fun _ _ => trivial) HO4.out HDJ.out HB4.out HB4.out.size HLL.out ?_; intro v2 w5 ho hb hg hat; have HO5 := Aside0.mk ho; have HB5 := Aside0.mk hb; have HOO5 := Aside0.mk (blk_grown HOO4.out hg (Kd.R_ne HO4.out HOO4.out (by decide))); clear ho hb hg hat)
        go_roundg (8 - (i + 1))
        case measure => have := HGK.out; omega
        case rel => exact ⟨i + 1, by go_num, ⟨rfl⟩, ⟨by omega⟩, HB5, ⟨by rw [HST.out]; exact HO5.out⟩, HOO5⟩
    · have hltb : decide ((i : Int) < 8) = false := decide_eq_false (by omega)
      have hil : i = 8 := by have := HI.out; omega
      subst hil
      clear hltb hlt HO3 HB3 HOO
      have HM8 := Aside0.mk (mergeTo_le HD.out rs 8)
      go_wp2
      obtain ⟨wo, rfl⟩ : ∃ wo : World, wo = wr := ⟨_, rfl⟩
      go_loopg [10, 56] ts.length (fun gk v10 v56 w' => ∃ j : Nat, v56 = .int .i64 j ∧ Aside0 (gk = ts.length - j) ∧ Aside0 (j ≤ ts.length) ∧ Aside0 (Below w.heap.size w w') ∧ Aside0 ((Kd.int .u8).R 5 w' w.heap.size (fun _ => True) v10 (mergeTo its rs 8 ++ moreTo l j)))
      case atStart => exact ⟨0, rfl, ⟨by omega⟩, ⟨by omega⟩, HB4, ⟨by rw [moreTo, List.append_nil]; exact HO4.out⟩⟩
      case round =>
        obtain ⟨j, rfl, HGJ, HJ, HB6, HO6⟩ := hrel
        clear HB4 HO4 HOO4
        by_cases hlt : j < ts.length
        · have hltb : decide ((j : Int) < (ts.length : Int)) = true := decide_eq_true (by omega)
          have j0 : (0 : Int) ≤ (j : Int) := by omega
          have j1 : (j : Int) < (ts.length : Int) := by omega
          have j2 : (j : Int) < 1000 := by have h1 := HTL.out; have h2 := HLL0.out; omega
          have hjl : j < l.length := by have := HTL.out; omega
          obtain ⟨t, ht, hraw⟩ := HRW.out j _ (List.getElem?_eq_getElem hjl)
          have hsz := HSS.out _ (List.getElem_mem hjl)
          have hrd := hraw.reads (by omega)
          obtain ⟨⟨ad0, hA, hc⟩⟩ := Aside0.mk (ReadsOf.at_ (Kd.reads_of_C (enc := fun t : Option Addr × Nat × Nat => Value.slice t.1 t.2.1 t.2.2) (d := ((none, 0, 0) : Option Addr × Nat × Nat)) (h1 := fun _ => rfl) HM.out) (j : Int) j0 j1)
          subst hA
          have hrdt : rdOf ((none, 0, 0) : Option Addr × Nat × Nat) ts (j : Int) = t := by simp [rdOf, ht]
          rw [hrdt] at hc
          simp only [Int.toNat_natCast] at hc
          obtain ⟨b0, cs0, fr0, e1, e2, _, _⟩ := hraw
          obtain ⟨t1, t2, t3⟩ := t
          simp only at e1 e2 hc hrd
          subst e1
          rw [← bytesOf_length] at e2
          subst e2
          replace hc := (HB6.out.cell (World.block_lt_of_cell? w _ hc)).trans hc
          have HDJ := Aside0.mk (Kd.C_below hrd HB6.out)
          have hml := moreTo_le HSS.out j
          have HLL := Aside0.mk (show ((mergeTo its rs 8 ++ moreTo l j).length + (bytesOf l[j]).length) * 1 ≤ 140737488355328 by
            rw [List.length_append, bytesOf_length]
            have h1 := HM8.out
            have h2 : j * 2000 ≤ 1000 * 2000 := Nat.mul_le_mul_right _ (by have := HLL0.out; omega)
            omega)
          have HST := Aside0.mk (show mergeTo its rs 8 ++ moreTo l (j + 1) = (mergeTo its rs 8 ++ moreTo l j) ++ bytesOf l[j] by rw [moreTo, show l.getD j ⟨#[]⟩ = l[j] by simp [hjl], List.append_assoc])
          clear hrd ht hrdt hml hsz
          generalize bytesOf l[j] = bj at *
          obtain ⟨mm, hmm⟩ : ∃ mm, mm = mergeTo its rs 8 ++ moreTo l j := ⟨_, rfl⟩
          rw [← hmm] at HO6 HLL HST
          have j0t := eq_true j0
          have j1t := eq_true j1
          go_wp2_with ((with_reducible refine gate_dst (N := 62) rfl ?_); refine Kd.R_append_row (Value.int .u8) (0 : Int) (h1 := fun _ => rfl) (w0 := w) w.heap.size rfl (.tmp 60) (.tmp 61) 48 5 (.int .u8 0) 1 rfl Tryz.underlying48 info_u8 rfl (by omega) u10 mm bj (some ⟨b0, 0, none⟩) bj.length t3 (fun _ => True) rfl rfl (fun _ _ => trivial) HO6.out HDJ.out HB6.out HB6.out.size HLL.out ?_; intro v2 w7 ho hb hg hat; have HO7 := Aside0.mk ho; have HB7 := Aside0.mk hb; clear ho hb hg hat)
          go_roundg (ts.length - (j + 1))
          case measure => have := HGJ.out; omega
          case rel => exact ⟨j + 1, by go_num, ⟨rfl⟩, ⟨by omega⟩, HB7, ⟨by rw [HST.out]; exact HO7.out⟩⟩
        · have hltb : decide ((j : Int) < (ts.length : Int)) = false := decide_eq_false (by omega)
          have hjt : j = ts.length := by have := HJ.out; omega
          subst hjt
          have HLZ := Aside0.mk (show (mergeTo its rs 8 ++ moreTo l ts.length).length ≤ 140737488355328 by
            rw [List.length_append]
            have h1 := HM8.out
            have h3 := moreTo_le HSS.out ts.length
            have h2 : ts.length * 2000 ≤ 1000 * 2000 := Nat.mul_le_mul_right _ (by have := HLL0.out; have := HTL.out; omega)
            omega)
          obtain ⟨mm, hmm⟩ : ∃ mm, mm = mergeTo its rs 8 ++ moreTo l ts.length := ⟨_, rfl⟩
          rw [← hmm] at HO6 HLZ HSU
          clear hmm
          obtain ⟨vA, vc, hv⟩ := Kd.R_slice HO6.out
          subst hv
          have HRD := Aside0.mk ((Kd.R_reads' HO6.out).2.2)
          go_wp2_with (first
            | (go_at_call 98; refine (thash1_calls g kind _ (blk_below HG.out HB6.out)).mono ?_; rintro e w8 ⟨d, rfl, hge, hd, hb⟩; have HD8 := Aside0.mk hd; have HB8 := Aside0.mk (HB6.out.trans (Below.mono hb HB6.out.size)); have HRD8 := Aside0.mk (Kd.C_below HRD.out hb); have HGE := Aside0.mk (show w.heap.size ≤ d from Nat.le_trans HB6.out.size hge); clear hge hd hb)
            | (go_at_call 291; refine (dwrite_calls d kind vA vc mm _ w.heap.size HD8.out HGE.out HRD8.out HLZ.out).mono ?_; rintro e w9 ⟨nA, nc, rfl, hd, hrr, hb⟩; have HD9 := Aside0.mk hd; have HB9 := Aside0.mk (HB8.out.trans hb); have HR9 := Aside0.mk ((Kd.R_reads' hrr).2.2); clear hd hrr hb)
            | (go_at_call 290; refine (dsum_calls d kind nA nc mm _ k r HD9.out HR9.out HSU.out hrl).mono ?_; rintro e w10 ⟨sv, rfl, hrr, hb⟩; obtain ⟨sA, sc, rfl⟩ := Kd.R_slice hrr; have HR10 := Aside0.mk ((Kd.R_reads' hrr).2.2); have HB10 := Aside0.mk (HB9.out.trans (Below.mono hb HB9.out.size)); clear hrr hb))
          go_ret2
          exact ⟨sA, sc, rfl, HR10.out, HB10.out⟩

set_option maxHeartbeats 4000000 in
theorem zSession_calls (h : Nat) (vf vm : Value) (ep : Int) (w : World) (Q : Value → World → Prop)
    (hq : ∀ w1, Below w.heap.size w w1 → Calls Tryz.prog 97 #[.pointer (some ⟨h, 0, none⟩), vf, .int .u16 ep, vm] w1 fun e w' => ∃ u, e = .returned (.tuple #[u, .nilIface]) ∧ Q u w') :
    Calls Tryz.prog 38 #[.agg #[.pointer (some ⟨h, 0, none⟩)], vf, .int .u16 ep, vm] w fun e w' => ∃ u, e = .returned (.tuple #[u, .nilIface]) ∧ Q u w' := by
  have hu := Tryz.underlying87
  go_enter Tryz.func38, Tryz.ntmps38
  go_wp2_with (first
    | ((with_reducible refine gate_dst (N := 4) rfl ?_); refine box_event ?hg (N := 4) ?hd (cs := #[.pointer (some ⟨h, 0, none⟩)]) (t := 87) ?hr ?_; (case hd => rfl); (case hg => rfl); (case hr => first | (go_simp; done) | (go_simp; rfl)); intro gb hgb w5 hbox hb; have z0 := zcell hbox; have HB5 := Aside0.mk hb; clear hbox hb hgb)
    | (go_at_call 97; refine (hq _ HB5.out).mono ?_; rintro e w6 ⟨u, rfl, hQ⟩; have HQ := Aside0.mk hQ; clear hQ))
  go_ret2
  exact ⟨u, rfl, HQ.out⟩
end Go.Proofs.YtmkbebincjppnaaGreatDoor
