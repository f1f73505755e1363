/- laws.FnCacheSession returns true: its walk. (Printed by wip/mks.py.) -/
import Derived.Test.YtmkbebincjppnaaGreatDoorQc
import Derived.Test.YtmkbebincjppnaaGreatDoorRn
import Derived.Test.YtmkbebincjppnaaGreatDoorPSesx4
namespace Go.Proofs.YtmkbebincjppnaaGreatDoor
open Go.RowKit Go.Proofs.YtmkbebincjppnaaGreatDoorW.PrintWords Go.Proofs.YtmkbebincjppnaaGreatDoorW.PrintLast Go.Proofs.YtmkbebincjppnaaGreatDoorW.PrintMore Go.Proofs.YtmkbebincjppnaaGreatDoor.PLib
set_option linter.unusedVariables false
set_option linter.unusedSimpArgs false

/-- A message of a handshake: its type, its side, its flight. -/
abbrev Fs := PSes.S81
def keepS (x : Fs) : Bool := !(decide (5 < x.f2)) && !(decide (x.f0 = 0)) && !(decide (x.f0 = 20)) && !(decide (x.f0 = 15))
def countS (ck : Bool) (x : Fs) : Bool := !ck || decide (2 < x.f2)
def bodyAt (B : List ByteArray) (j : Nat) : ByteArray := B.getD j ⟨#[]⟩
def itemsOf (B : List ByteArray) (ks : List Fs) : List Fi := ks.mapIdx fun j x => (⟨bodyAt B j, 0, (j : Int), x.f0, x.f1⟩ : Fi)
def idxOf (ck : Bool) (ks : List Fs) : List Nat := (ks.zipIdx.filter fun p => countS ck p.1).map (·.2)
def catB (B : List ByteArray) (I : List Nat) : ByteArray := I.foldl (fun a j => a ++ bodyAt B j) ⟨#[]⟩
theorem itemsOf_length (B : List ByteArray) (ks : List Fs) : (itemsOf B ks).length = ks.length := by simp [itemsOf]
theorem itemsOf_snoc (B : List ByteArray) (ks : List Fs) (x : Fs) : itemsOf B (ks ++ [x]) = itemsOf B ks ++ [(⟨bodyAt B ks.length, 0, (ks.length : Int), x.f0, x.f1⟩ : Fi)] := by
  simp [itemsOf, List.mapIdx_append]
theorem idxOf_snoc (ck : Bool) (ks : List Fs) (x : Fs) : idxOf ck (ks ++ [x]) = idxOf ck ks ++ (if countS ck x = true then [ks.length] else []) := by
  unfold idxOf
  rw [List.zipIdx_append, List.filter_append, List.map_append]
  congr 1
  by_cases h : countS ck x = true <;> simp [h]
theorem catB_snoc (B : List ByteArray) (I : List Nat) (j : Nat) : catB B (I ++ [j]) = catB B I ++ bodyAt B j := by simp [catB]
theorem bytes_append (a b : ByteArray) : bytesOf (a ++ b) = bytesOf a ++ bytesOf b := by
  simp [bytesOf, ByteArray.data_append]
theorem bytes_catB (B : List ByteArray) : ∀ (I : List Nat) (a : ByteArray), bytesOf (I.foldl (fun a j => a ++ bodyAt B j) a) = bytesOf a ++ I.flatMap fun j => bytesOf (bodyAt B j)
  | [], a => by simp
  | i :: I, a => by rw [List.foldl_cons, bytes_catB B I, bytes_append, List.flatMap_cons, List.append_assoc]

/-! What a rule picks hangs on the types, the sides and the order alone. -/
def bare (x : It) : It := ⟨x.ty, x.cl, x.ep, x.sq, []⟩
theorem pickTo_bare (its : List It) (r : Rl) : ∀ k, pickTo (its.map bare) r k = pickTo its r k
  | 0 => rfl
  | k + 1 => by
    rw [pickTo, pickTo, pickTo_bare its r k, List.getElem?_map]
    cases hk : its[k]? with
    | none => rfl
    | some x =>
      simp only [Option.map_some]
      have e1 : meets (bare x) r ↔ meets x r := Iff.rfl
      by_cases hm : meets x r
      · rw [if_pos hm, if_pos (e1.2 hm)]
        cases hp : pickTo its r k with
        | none => rfl
        | some j =>
          have e2 : ((its.map bare)[j]?.getD ⟨0, false, 0, 0, []⟩).sq = (its[j]?.getD ⟨0, false, 0, 0, []⟩).sq := by
            rw [List.getElem?_map]
            cases its[j]? <;> rfl
          simp only
          rw [e2]
          rfl
      · rw [if_neg hm, if_neg (fun h => hm (e1.1 h))]
theorem pick_bare (its : List It) (r : Rl) : pick (its.map bare) r = pick its r := by
  unfold pick
  rw [List.length_map]
  exact pickTo_bare its r _
def baresOf (ks : List Fs) : List It := ks.mapIdx fun j x => (⟨x.f0, x.f1, 0, (j : Int), []⟩ : It)
theorem bares_items (B : List ByteArray) (ks : List Fs) : ((itemsOf B ks).map itF).map bare = baresOf ks := by
  apply List.ext_getElem?
  intro i
  simp only [itemsOf, baresOf, List.getElem?_map, List.getElem?_mapIdx]
  cases ks[i]? <;> rfl
theorem datOf_items (B : List ByteArray) (ks : List Fs) (k : Nat) (hk : k < ks.length) : datOf ((itemsOf B ks).map itF) (some k) = bytesOf (bodyAt B k) := by
  simp [datOf, itemsOf, hk, itF]
def picksOf (ks : List Fs) (rs : List Rl) : List Nat := rs.filterMap fun r => pick (baresOf ks) r
theorem mergeTo_items (B : List ByteArray) (ks : List Fs) (rs : List Rl) : ∀ i, i ≤ rs.length → mergeTo ((itemsOf B ks).map itF) rs i = (picksOf ks (rs.take i)).flatMap fun j => bytesOf (bodyAt B j)
  | 0, _ => by simp [mergeTo, picksOf]
  | i + 1, h => by
    have hi : i < rs.length := by omega
    have hg : rs.getD i z96 = rs[i] := by simp [hi]
    have hp : pick ((itemsOf B ks).map itF) rs[i] = pick (baresOf ks) rs[i] := by rw [← bares_items B ks, pick_bare]
    rw [mergeTo, mergeTo_items B ks rs i (by omega), hg, hp, List.take_succ_eq_append_getElem hi]
    unfold picksOf
    rw [List.filterMap_append, List.flatMap_append]
    congr 1
    cases hq : pick (baresOf ks) rs[i] with
    | none => simp [datOf, hq]
    | some k =>
      have hk : k < ks.length := by
        have := (pickTo_lt (baresOf ks) rs[i] _ k hq).2
        simpa [baresOf] using this
      simp [datOf_items B ks k hk, hq]

/-! A whole handshake. -/
def flightsOf (ck ct ky rq cc cs : Bool) : List Fs :=
  [⟨1, true, 1⟩] ++ (if ck = true then [⟨3, false, 2⟩, ⟨1, true, 3⟩] else []) ++ [⟨2, false, 4⟩] ++ (if ct = true then [⟨11, false, 4⟩] else []) ++ (if ky = true then [⟨12, false, 4⟩] else []) ++
    (if rq = true then [⟨13, false, 4⟩] else []) ++ [⟨14, false, 4⟩] ++ (if cc = true then [⟨11, true, 5⟩] else []) ++ [⟨16, true, 5⟩] ++ (if cs = true then [⟨15, true, 5⟩] else []) ++
    [⟨0, true, 5⟩, ⟨20, true, 5⟩] ++ [⟨0, false, 6⟩, ⟨20, false, 6⟩]
theorem flights_f : ∀ ck ct ky rq cc cs : Bool, PSes.spec_Flights.f 10 ck false ct ky rq cc cs = some (flightsOf ck ct ky rq cc cs) := by
  intro ck ct ky rq cc cs
  cases ck <;> cases ct <;> cases ky <;> cases rq <;> cases cc <;> cases cs <;> kernel_rfl
def keptsOf (ck ct ky rq cc cs : Bool) : List Fs := (flightsOf ck ct ky rq cc cs).filter keepS
theorem session_picks : ∀ ck ct ky rq cc cs : Bool, picksOf (keptsOf ck ct ky rq cc cs) (sessRules 0) = idxOf ck (keptsOf ck ct ky rq cc cs) := by decide +kernel
theorem kepts_few : ∀ ck ct ky rq cc cs : Bool, (keptsOf ck ct ky rq cc cs).length ≤ 12 := by decide +kernel
theorem session_law (B : List ByteArray) (ck ct ky rq cc cs : Bool) : mergeTo ((itemsOf B (keptsOf ck ct ky rq cc cs)).map itF) (sessRules 0) 8 = bytesOf (catB B (idxOf ck (keptsOf ck ct ky rq cc cs))) := by
  obtain ⟨ks, hks⟩ : ∃ ks, ks = keptsOf ck ct ky rq cc cs := ⟨_, rfl⟩
  have hp : picksOf ks (sessRules 0) = idxOf ck ks := by rw [hks]; exact session_picks ck ct ky rq cc cs
  have h8 := mergeTo_items B ks (sessRules 0) 8 (by decide)
  have ht : (sessRules 0).take 8 = sessRules 0 := by simp [sessRules]
  rw [ht, hp] at h8
  have he := bytes_catB B (idxOf ck ks) ⟨#[]⟩
  have h0 : bytesOf ⟨#[]⟩ = [] := by simp [bytesOf]
  rw [h0, List.nil_append] at he
  rw [← hks, h8]
  exact he.symm
/-- What is added behind. -/
def catM (s : ByteArray) (M : List ByteArray) (j : Nat) : ByteArray := (M.take j).foldl (fun a b => a ++ b) s
theorem catM_zero (s : ByteArray) (M : List ByteArray) : catM s M 0 = s := by simp [catM]
theorem catM_succ (s : ByteArray) (M : List ByteArray) (j : Nat) (hj : j < M.length) : catM s M (j + 1) = catM s M j ++ M[j] := by
  unfold catM
  rw [List.take_succ_eq_append_getElem hj, List.foldl_append]
  rfl
theorem bytes_catM (s : ByteArray) (M : List ByteArray) : ∀ j, j ≤ M.length → bytesOf (catM s M j) = bytesOf s ++ moreTo M j
  | 0, _ => by simp [catM_zero, moreTo]
  | j + 1, h => by
    rw [catM_succ s M j (by omega), bytes_append, bytes_catM s M j (by omega), moreTo, List.append_assoc, show M.getD j ⟨#[]⟩ = M[j] by simp [show j < M.length by omega]]
theorem session_text (B M : List ByteArray) (ck ct ky rq cc cs : Bool) :
    strOfNums (sessBytes ((itemsOf B (keptsOf ck ct ky rq cc cs)).map itF) 0 M) = catM (catB B (idxOf ck (keptsOf ck ct ky rq cc cs))) M M.length := by
  rw [sessBytes, session_law, ← bytes_catM _ _ _ (Nat.le_refl _), str_bytes]
theorem info_fi : (Tryz.prog.info? 62).map (fun i => (i.zero, i.size, i.bytes)) = some (some (.agg #[.string ⟨#[]⟩, .int .u16 0, .int .u16 0, .int .u8 0, .bool false]), 5, 24) := by kernel_rfl
theorem told_cells0 {w : World} {e base g n c : Nat} {ok : Nat → Prop} {ts : List Told} (h : kTold.R e w base ok (.slice (some ⟨g, 0, none⟩) n c) ts) (i : Nat) (t : Told) (ht : ts[i]? = some t) :
    w.cell? ⟨g, i * 5, none⟩ = some (.bool t.ok) ∧ w.cell? ⟨g, i * 5 + 2, none⟩ = some (.string t.text) := by
  obtain ⟨_, inner, ho, hr⟩ := h
  have h2 := hr.2 i t ht
  obtain ⟨_, _, he, rfl, ⟨_, _, rfl, rfl, ⟨_, _, rfl, rfl, ⟨_, _, rfl, ⟨pv, rfl, hp⟩, rfl⟩⟩⟩⟩ := h2
  have hin : ∀ j u, ([.bool t.ok] ++ ([.int .i64 t.next] ++ ([.string t.text] ++ ([pv] ++ [.slice none 0 0]))) : List Value)[j]? = some u → inner[i * 5 + j]? = some u := by
    intro j u hu
    rw [← he] at hu
    have hj : j < 5 := by
      have := (List.getElem?_eq_some_iff.1 hu).1
      rw [List.length_take] at this
      have h5 : kTold.sz = 5 := rfl
      omega
    rw [List.getElem?_take, if_pos (by exact hj), List.getElem?_drop] at hu
    exact hu
  have hc : ∀ j u, ([.bool t.ok] ++ ([.int .i64 t.next] ++ ([.string t.text] ++ ([pv] ++ [.slice none 0 0]))) : List Value)[j]? = some u → w.cell? ⟨g, i * 5 + j, none⟩ = some u := by
    intro j u hu
    have h5 := ho.cells (g := g) rfl (i * 5 + j) u (hin j u hu)
    rwa [add_plain] at h5
  exact ⟨hc 0 _ rfl, hc 2 _ rfl⟩
section
variable {P : Program} {ops : Array Oper} {rest : List Oper} {o : Oper} {a : Act} {Q : Exit → Act → World → Prop} {α : Type}
/-- append(v, x) where x's inner rows are somebody else's: the row reads. -/
theorem C_append (d : Kd α) {w0 W : World} (base : Nat) (hgd : o.guard = none) (s x : Operand) (t e : TypeId) (z : Value) (bytes : Nat)
    (ho : o.op = .call { callee := .builtin .append, args := #[s, x], argTypes := #[t, t] })
    (ht : P.underlying t = some (.slice e)) (hinfo : (P.info? e).map (fun i => (i.zero, i.size, i.bytes)) = some (some z, d.sz, bytes)) (hz : z.cells.size = d.sz) (hs0 : 0 < d.sz) (hb0 : 0 < bytes)
    (v : Value) (xs : List α) (p : α) (cs : List Value) (ok : Nat → Prop) (hs : a.eval s = v) (hx : a.eval x = .slice (some ⟨W.heap.size, 0, none⟩) 1 1) (hK : ∀ w1, Below base w0 w1 → d.K w1 p cs)
    (HO : d.R e W base ok v xs) (HB : Below base w0 W) (hbase : base ≤ W.heap.size) (hl : (xs.length + 1) * bytes ≤ 140737488355328)
    (h : ∀ A c w1, d.C w1 A (xs ++ [p]).length (xs ++ [p]) → Below base w0 w1 → wpList P ops Q rest (a.put o.dst (.slice A (xs ++ [p]).length c)) w1) :
    wpList P ops Q (o :: rest) a (W.alloc (.cells cs.toArray e)) := by
  obtain ⟨h0, inner, hown, hr⟩ := HO
  have hlen := d.K_len (hK W HB)
  have hone := d.K_one (hK W HB)
  refine print_append_cells base hgd s x t e z d.sz bytes ho ht hinfo hz hs0 hb0 v xs.length inner cs hs hx hlen hone hown HB hbase hl ?_
  intro v1 w1 hown1 hb1 hg1 hat1
  have hreps : Reps (d.K w1) d.sz (xs ++ [p]) (inner ++ cs) :=
    (hr.imp_ (fun q c hq => d.K_of_M (d.M_move (w1 := w1) (fun k hk => hg1.block k hk.2.2.1 hk.1.2) (d.M_bound hq)))).snoc (hK w1 hb1) hlen
  obtain ⟨A, c, rfl, _, hrow⟩ := OwnRow.reads (R := d.K w1) (ps := xs ++ [p]) ⟨inner ++ cs, by rw [List.length_append, List.length_singleton]; exact hown1, hreps⟩
  exact h A c w1 hrow hb1
end

/-! The run of the law. -/
def kSess (kind : Int) (M : List ByteArray) : Sp := ⟨5, ⟨#[]⟩, 0, 0, 0, false, [], 0, 0, kind, M⟩
theorem sess_K {w : World} {kind : Int} {M : List ByteArray} {AM : Option Addr} {cm : Nat} (hl : M.length ≤ cm) (hM : Kd.string.C w AM M.length M) : k31.K w (kSess kind M) [.int .i64 5, .string ⟨#[]⟩, .int .u16 0, .int .u16 0, .int .u8 0, .bool false, .slice none 0 0, .int .i64 0, .int .i64 0, .int .i64 kind, .slice AM M.length cm] :=
  k31_mk w (kSess kind M) (A6 := none) (c6 := 0) (Nat.le_refl 0) ⟨rfl, Nat.zero_le _, fun h => absurd h (Nat.lt_irrefl 0)⟩ hl hM
theorem kept_items (B : List ByteArray) (ks : List Fs) (hk : ks.length ≤ 60) (hb : ∀ j, j < ks.length → (bodyAt B j).size ≤ 2000) : KeptP (itemsOf B ks) := by
  have hg : ∀ j, j < ks.length → (itemsOf B ks).getD j z62 = (⟨bodyAt B j, 0, (j : Int), (ks.getD j PSes.z81).f0, (ks.getD j PSes.z81).f1⟩ : Fi) := by
    intro j hj
    simp [itemsOf, hj]
  refine ⟨by rw [itemsOf_length]; omega, fun j hj => ?_⟩
  rw [itemsOf_length] at hj
  unfold KeptAt
  rw [hg j hj]
  refine ⟨hb j hj, fun h0 => ?_⟩
  rw [hg (j - 1) (by omega)]
  show ((j - 1 : Nat) : Int) < (j : Int)
  omega
theorem sess_fit {l : List Fi} {M : List ByteArray} {kind : Int} (hk : KeptP l) (h0 : 0 ≤ kind) (h1 : kind < 64) (hm : M.length ≤ 1000) (hs : ∀ s, s ∈ M → s.size ≤ 2000) (i : Nat) (hi : i < (l.map stF ++ [kSess kind M]).length) :
    FitS (runTo (l.map stF ++ [kSess kind M]) i) ((l.map stF ++ [kSess kind M]).getD i z31) := by
  simp at hi
  by_cases h : i < l.length
  · rcases fit_push [kSess kind M] hk i h with hf | hf | hf
    · exact .inl hf
    · rw [getD_push l _ i h] at hf
      exact absurd hf (by show ¬ (0 : Int) = 1; decide)
    · rw [getD_push l _ i h] at hf
      rcases hf.1 with hf | hf
      · exact absurd hf (by show ¬ (0 : Int) = 2; decide)
      · exact absurd hf (by show ¬ (0 : Int) = 3; decide)
  · obtain rfl : i = l.length := by omega
    have e : (l.map stF ++ [kSess kind M]).getD l.length z31 = kSess kind M := getD_rest l [kSess kind M] 0
    rw [e]
    exact .inr ⟨rfl, hm, hs, h0, h1⟩
theorem sess_told (l : List Fi) (M : List ByteArray) (kind : Int) : (toldsS (l.map stF ++ [kSess kind M]) (l.map stF ++ [kSess kind M]).length)[l.length]? = some ⟨true, 0, tsum kind (strOfNums (sessBytes (l.map itF) 0 M)), []⟩ := by
  have e : (l.map stF ++ [kSess kind M]).getD l.length z31 = kSess kind M := getD_rest l [kSess kind M] 0
  have hr := (run_pushes l [kSess kind M] l.length (Nat.le_refl _)).1
  rw [List.take_length] at hr
  rw [toldsS_at _ _ _ (by simp), e]
  unfold toldS
  rw [if_neg (show ¬ (kSess kind M).f0 = 0 by show ¬ (5 : Int) = 0; decide), hr]
  rfl
theorem flights_few : ∀ ck ct ky rq cc cs : Bool, (flightsOf ck ct ky rq cc cs).length ≤ 20 := by decide +kernel
theorem filter_step (fl : List Fs) (i : Nat) (h : i < fl.length) : (fl.take (i + 1)).filter keepS = (fl.take i).filter keepS ++ (if keepS fl[i] = true then [fl[i]] else []) := by
  rw [List.take_succ_eq_append_getElem h, List.filter_append]
  congr 1
  by_cases hk : keepS fl[i] = true <;> simp [hk]
theorem filter_len (fl : List Fs) (i : Nat) (h : fl.length ≤ 20) : ((fl.take i).filter keepS).length ≤ 20 :=
  Nat.le_trans (List.length_filter_le _ _) (by rw [List.length_take]; omega)
theorem cells_choice (ck rs ct ky rq cc cs : Bool) : (Value.agg #[.bool ck, .bool rs, .bool ct, .bool ky, .bool rq, .bool cc, .bool cs]).cells = #[.bool ck, .bool rs, .bool ct, .bool ky, .bool rq, .bool cc, .bool cs] := rfl

set_option maxHeartbeats 16000000 in
set_option maxRecDepth 100000 in
theorem session_walk (ck rs ct ky rq cc cs : Bool) (AB AM : Option Addr) (cb cm : Nat) (B M : List ByteArray) (kind : Int) (w : World) (hB : Kd.string.C w AB B.length B) (hM : Kd.string.C w AM M.length M) (lB : B.length ≤ cb) (lM : M.length ≤ cm) :
    Calls Tryz.prog 7 #[.agg #[.bool ck, .bool rs, .bool ct, .bool ky, .bool rq, .bool cc, .bool cs], .slice AB B.length cb, .int .i64 kind, .slice AM M.length cm] w fun e w' => e = .returned (.bool true) ∧ Below w.heap.size w w' := by
  have huc := Tryz.underlying74
  have hus := Tryz.underlying81
  have huf := Tryz.underlying62
  have hup := Tryz.underlying31
  have hut := Tryz.underlying40
  obtain ⟨k1, b1, f1, g1⟩ := fits3_f B
  obtain ⟨k2, b2, f2, g2⟩ := fits3_f M
  obtain ⟨b3, f3, g3⟩ := keyhash_f kind
  obtain ⟨k4, b4, f4, g4⟩ := few_f M hM.2.1
  have HB0 := Aside0.mk hB
  have HM0 := Aside0.mk hM
  have TF1 := Aside0.mk f1
  have TF2 := Aside0.mk f2
  have TF3 := Aside0.mk f3
  have TF4 := Aside0.mk f4
  have G3 := Aside0.mk g3
  have G4 := Aside0.mk g4
  have LB := Aside0.mk lB
  have LM := Aside0.mk lM
  clear hB hM f1 f2 f3 f4 g1 g2 g3 g4 lB lM
  go_enter Tryz.func7, Tryz.ntmps7
  cases b1 with
  | false =>
    go_wp2_with (first | ((with_reducible refine gate_dst (N := 4) rfl ?_); refine box_event ?hg (N := 4) ?hd (cs := #[.bool ck, .bool rs, .bool ct, .bool ky, .bool rq, .bool cc, .bool cs]) (t := 74) ?hr ?_; (case hd => rfl); (case hg => rfl); (case hr => first | (go_simp; done) | (go_simp; rfl)); intro gx hgx w1 hbox hb; have HX1 := Aside0.mk hbox; have HB1 := Aside0.mk hb; clear hbox hb hgx) | (have _t := TF1.out; clear _t; go_at_call 22; refine (PSes.laws_zzFits3.calls k1 AB cb B _ _ (Kd.C_below HB0.out HB1.out) LB.out TF1.out).mono ?_; rintro e w2 ⟨rfl, ⟨nd, hw⟩⟩; have HB2 := Aside0.mk (show Below w.heap.size w w2 from hw ▸ pw_below_drewN HB1.out nd); have HX2 := Aside0.mk (show w2.heap[gx]? = _ from hw ▸ blk_drewN HX1.out nd); clear hw TF1))
    go_ret
    exact ⟨rfl, HB2.out⟩
  | true =>
    cases b2 with
    | false =>
      go_wp2_with (first | ((with_reducible refine gate_dst (N := 4) rfl ?_); refine box_event ?hg (N := 4) ?hd (cs := #[.bool ck, .bool rs, .bool ct, .bool ky, .bool rq, .bool cc, .bool cs]) (t := 74) ?hr ?_; (case hd => rfl); (case hg => rfl); (case hr => first | (go_simp; done) | (go_simp; rfl)); intro gx hgx w1 hbox hb; have HX1 := Aside0.mk hbox; have HB1 := Aside0.mk hb; clear hbox hb hgx) | (have _t := TF1.out; clear _t; go_at_call 22; refine (PSes.laws_zzFits3.calls k1 AB cb B _ _ (Kd.C_below HB0.out HB1.out) LB.out TF1.out).mono ?_; rintro e w2 ⟨rfl, ⟨nd, hw⟩⟩; have HB2 := Aside0.mk (show Below w.heap.size w w2 from hw ▸ pw_below_drewN HB1.out nd); have HX2 := Aside0.mk (show w2.heap[gx]? = _ from hw ▸ blk_drewN HX1.out nd); clear hw TF1) | (have _t := TF2.out; clear _t; go_at_call 22; refine (PSes.laws_zzFits3.calls k2 AM cm M _ _ (Kd.C_below HM0.out HB2.out) LM.out TF2.out).mono ?_; rintro e w3 ⟨rfl, ⟨nd, hw⟩⟩; have HB3 := Aside0.mk (show Below w.heap.size w w3 from hw ▸ pw_below_drewN HB2.out nd); have HX3 := Aside0.mk (show w3.heap[gx]? = _ from hw ▸ blk_drewN HX2.out nd); clear hw TF2))
      go_ret
      exact ⟨rfl, HB3.out⟩
    | true =>
      go_upto_region 3 with (first | ((with_reducible refine gate_dst (N := 4) rfl ?_); refine box_event ?hg (N := 4) ?hd (cs := #[.bool ck, .bool rs, .bool ct, .bool ky, .bool rq, .bool cc, .bool cs]) (t := 74) ?hr ?_; (case hd => rfl); (case hg => rfl); (case hr => first | (go_simp; done) | (go_simp; rfl)); intro gx hgx w1 hbox hb; have HX1 := Aside0.mk hbox; have HB1 := Aside0.mk hb; clear hbox hb hgx) | (have _t := TF1.out; clear _t; go_at_call 22; refine (PSes.laws_zzFits3.calls k1 AB cb B _ _ (Kd.C_below HB0.out HB1.out) LB.out TF1.out).mono ?_; rintro e w2 ⟨rfl, ⟨nd, hw⟩⟩; have HB2 := Aside0.mk (show Below w.heap.size w w2 from hw ▸ pw_below_drewN HB1.out nd); have HX2 := Aside0.mk (show w2.heap[gx]? = _ from hw ▸ blk_drewN HX1.out nd); clear hw TF1) | (have _t := TF2.out; clear _t; go_at_call 22; refine (PSes.laws_zzFits3.calls k2 AM cm M _ _ (Kd.C_below HM0.out HB2.out) LM.out TF2.out).mono ?_; rintro e w3 ⟨rfl, ⟨nd, hw⟩⟩; have HB3 := Aside0.mk (show Below w.heap.size w w3 from hw ▸ pw_below_drewN HB2.out nd); have HX3 := Aside0.mk (show w3.heap[gx]? = _ from hw ▸ blk_drewN HX2.out nd); clear hw TF2))
      have x1 := (blk_cell HX3.out 1).trans rfl
      cases b3 with
      | false =>
        go_wp2_with (have _t := TF3.out; clear _t; go_at_call 23; refine (PSes.spec_KeyHash.calls kind _ _ TF3.out).mono ?_; rintro e w4 ⟨rfl, ⟨nd, hw⟩⟩; have HB4 := Aside0.mk (show Below w.heap.size w w4 from hw ▸ pw_below_drewN HB3.out nd); have HX4 := Aside0.mk (show w4.heap[gx]? = _ from hw ▸ blk_drewN HX3.out nd); clear hw TF3)
        go_ret
        exact ⟨rfl, HB4.out⟩
      | true =>
        obtain ⟨hk0, hk1⟩ := G3.out rfl
        have HK0 := Aside0.mk hk0
        have HK1 := Aside0.mk hk1
        clear hk0 hk1
        cases rs with
        | true =>
          go_wp2_with (first | ((have _t := TF3.out; clear _t; go_at_call 23; refine (PSes.spec_KeyHash.calls kind _ _ TF3.out).mono ?_; rintro e w4 ⟨rfl, ⟨nd, hw⟩⟩; have HB4 := Aside0.mk (show Below w.heap.size w w4 from hw ▸ pw_below_drewN HB3.out nd); have HX4 := Aside0.mk (show w4.heap[gx]? = _ from hw ▸ blk_drewN HX3.out nd); clear hw TF3); clear x1; have x1 := (blk_cell HX4.out 1).trans rfl))
          go_ret
          exact ⟨rfl, HB4.out⟩
        | false =>
          by_cases hm10 : (M.length : Int) > 10
          · have hm10b : decide ((10 : Int) < (M.length : Int)) = true := decide_eq_true hm10
            have hm10c : decide (10 < M.length) = true := decide_eq_true (by omega)
            clear hm10
            go_wp2_with (first | ((have _t := TF3.out; clear _t; go_at_call 23; refine (PSes.spec_KeyHash.calls kind _ _ TF3.out).mono ?_; rintro e w4 ⟨rfl, ⟨nd, hw⟩⟩; have HB4 := Aside0.mk (show Below w.heap.size w w4 from hw ▸ pw_below_drewN HB3.out nd); have HX4 := Aside0.mk (show w4.heap[gx]? = _ from hw ▸ blk_drewN HX3.out nd); clear hw TF3); clear x1; have x1 := (blk_cell HX4.out 1).trans rfl))
            go_ret
            exact ⟨rfl, HB4.out⟩
          · have hm10b : decide ((10 : Int) < (M.length : Int)) = false := decide_eq_false hm10
            have hm10c : decide (10 < M.length) = false := decide_eq_false (by omega)
            have HM10 := Aside0.mk (show M.length ≤ 10 by omega)
            clear hm10
            cases b4 with
            | false =>
              go_wp2_with (first | ((have _t := TF3.out; clear _t; go_at_call 23; refine (PSes.spec_KeyHash.calls kind _ _ TF3.out).mono ?_; rintro e w4 ⟨rfl, ⟨nd, hw⟩⟩; have HB4 := Aside0.mk (show Below w.heap.size w w4 from hw ▸ pw_below_drewN HB3.out nd); have HX4 := Aside0.mk (show w4.heap[gx]? = _ from hw ▸ blk_drewN HX3.out nd); clear hw TF3); clear x1; have x1 := (blk_cell HX4.out 1).trans rfl) | (have _t := TF4.out; clear _t; go_at_call 24; refine (PSes.laws_few.calls k4 AM cm M _ _ (Kd.C_below HM0.out HB4.out) LM.out TF4.out).mono ?_; rintro e w5 ⟨rfl, ⟨nd, hw⟩⟩; have HB5 := Aside0.mk (show Below w.heap.size w w5 from hw ▸ pw_below_drewN HB4.out nd); have HX5 := Aside0.mk (show w5.heap[gx]? = _ from hw ▸ blk_drewN HX4.out nd); clear hw TF4))
              go_ret
              exact ⟨rfl, HB5.out⟩
            | true =>
              have HMS := Aside0.mk (G4.out rfl)
              go_upto_region 7 with (first | ((have _t := TF3.out; clear _t; go_at_call 23; refine (PSes.spec_KeyHash.calls kind _ _ TF3.out).mono ?_; rintro e w4 ⟨rfl, ⟨nd, hw⟩⟩; have HB4 := Aside0.mk (show Below w.heap.size w w4 from hw ▸ pw_below_drewN HB3.out nd); have HX4 := Aside0.mk (show w4.heap[gx]? = _ from hw ▸ blk_drewN HX3.out nd); clear hw TF3); clear x1; have x1 := (blk_cell HX4.out 1).trans rfl) | (have _t := TF4.out; clear _t; go_at_call 24; refine (PSes.laws_few.calls k4 AM cm M _ _ (Kd.C_below HM0.out HB4.out) LM.out TF4.out).mono ?_; rintro e w5 ⟨rfl, ⟨nd, hw⟩⟩; have HB5 := Aside0.mk (show Below w.heap.size w w5 from hw ▸ pw_below_drewN HB4.out nd); have HX5 := Aside0.mk (show w5.heap[gx]? = _ from hw ▸ blk_drewN HX4.out nd); clear hw TF4))
              clear x1 hm10b hm10c
              obtain ⟨fl, hfl⟩ : ∃ fl, fl = flightsOf ck ct ky rq cc cs := ⟨_, rfl⟩
              have HFF := Aside0.mk (show PSes.spec_Flights.f 10 ck false ct ky rq cc cs = some fl by rw [hfl]; exact flights_f ck ct ky rq cc cs)
              have HFN := Aside0.mk (show fl.length ≤ 20 by rw [hfl]; exact flights_few ck ct ky rq cc cs)
              have HFL := Aside0.mk hfl
              clear hfl
              have x0 := (blk_cell HX5.out 0).trans rfl
              have x1 := (blk_cell HX5.out 1).trans rfl
              have x2 := (blk_cell HX5.out 2).trans rfl
              have x3 := (blk_cell HX5.out 3).trans rfl
              have x4 := (blk_cell HX5.out 4).trans rfl
              have x5 := (blk_cell HX5.out 5).trans rfl
              have x6 := (blk_cell HX5.out 6).trans rfl
              go_wp2_with (go_at_call 25; refine (PSes.spec_Flights.calls 10 ck false ct ky rq cc cs fl _ HFF.out).mono ?_; rintro e w7 ⟨fv, rfl, hr, hb⟩; obtain ⟨fA, fc, rfl⟩ := Kd.R_slice hr; have HFC := Aside0.mk ((Kd.R_reads' hr).2.2); have HB7 := Aside0.mk (HB5.out.trans (Below.mono hb HB5.out.size)); have HX7 := Aside0.mk (blk_below HX5.out hb); clear hr hb)
              clear x0 x1 x2 x3 x4 x5 x6
              go_loopg [9, 10, 45] fl.length (fun gk v9 v10 v45 w' => ∃ i : Nat, v45 = .int .i64 i ∧ v10 = .string (catB B (idxOf ck ((fl.take i).filter keepS))) ∧ Aside0 (gk = fl.length - i) ∧ Aside0 (i ≤ fl.length) ∧ Aside0 (Below w7.heap.size w7 w') ∧
                Aside0 (w'.heap[gx]? = some (.cells #[.bool ck, .bool false, .bool ct, .bool ky, .bool rq, .bool cc, .bool cs] 74 (0, 0))) ∧ Aside0 (kFi.R 62 w' w7.heap.size (fun _ => True) v9 (itemsOf B ((fl.take i).filter keepS))) ∧
                Aside0 (∀ j, j < ((fl.take i).filter keepS).length → (bodyAt B j).size ≤ 2000) ∧ Aside0 ((catB B (idxOf ck ((fl.take i).filter keepS))).size ≤ i * 2000))
              case atStart => exact ⟨0, rfl, rfl, ⟨by omega⟩, ⟨by omega⟩, ⟨Below.refl _ _⟩, HX7, ⟨Kd.R_nil _ _ _ _ _⟩, ⟨fun j hj => absurd hj (by simp)⟩, ⟨by have e : catB B (idxOf ck ((fl.take 0).filter keepS)) = ⟨#[]⟩ := rfl; rw [e]; exact Nat.zero_le _⟩⟩
              case round =>
                obtain ⟨i, rfl, rfl, HG, HI, HB9, HX9, HO9, HBQ, HSZ⟩ := hrel
                by_cases hlt : i < fl.length
                · have hltb : decide ((i : Int) < (fl.length : Int)) = true := decide_eq_true (by omega)
                  have i0 : (0 : Int) ≤ (i : Int) := by omega
                  have i1 : (i : Int) < (fl.length : Int) := by omega
                  obtain ⟨ar, hA, y0, y1, y2⟩ := PSes.at_T81 HFC.out (i : Int) i0 i1
                  subst hA
                  have hrd : PSes.rd_T81 fl (i : Int) = fl[i] := by simp [PSes.rd_T81, hlt]
                  rw [hrd] at y0 y1 y2
                  simp only [Int.toNat_natCast] at y0 y1 y2
                  replace y0 := (HB9.out.cell (World.block_lt_of_cell? _ _ y0)).trans y0
                  replace y1 := (HB9.out.cell (World.block_lt_of_cell? _ _ y1)).trans y1
                  replace y2 := (HB9.out.cell (World.block_lt_of_cell? _ _ y2)).trans y2
                  obtain ⟨x, hx⟩ : ∃ x, x = fl[i] := ⟨_, rfl⟩
                  rw [← hx] at y0 y1 y2
                  have HXI := Aside0.mk hx.symm
                  clear hx hrd
                  have i0t := eq_true i0
                  have i1t := eq_true i1
                  have x0 := (blk_cell HX9.out 0).trans rfl
                  go_upto_region 10 with ((with_reducible refine gate_dst (N := 12) rfl ?_); refine box_event ?hg (N := 12) ?hd (cs := #[.int .u8 0, .bool false, .int .i64 0]) (t := 81) ?hr ?_; (case hd => rfl); (case hg => rfl); (case hr => first | (go_simp; done) | (go_simp; rfl)); intro gb hgb w10 hbox hb; have HB10 := Aside0.mk (HB9.out.trans (Below.mono hb HB9.out.size)); have HX10 := Aside0.mk (blk_below HX9.out hb); have HO10 := Aside0.mk (Kd.R_below HO9.out hb); have HK10 := Aside0.mk hbox; have HGB := Aside0.mk (show w7.heap.size ≤ gb by rw [hgb]; exact HB9.out.size); have k0 := (blk_cell hbox 0).trans rfl; have k1 := (blk_cell hbox 1).trans rfl; have k2 := (blk_cell hbox 2).trans rfl; have m0 := blk_frozen hbox 0; have m1 := blk_frozen hbox 1; have m2 := blk_frozen hbox 2; clear hb hgb hbox)
                  obtain ⟨w11, hw11⟩ : ∃ w11, w11 = ((w10.setCell ⟨gb, 0, none⟩ (.int .u8 x.f0)).setCell ⟨gb, 1, none⟩ (.bool x.f1)).setCell ⟨gb, 2, none⟩ (.int .i64 x.f2) := ⟨_, rfl⟩
                  rw [← hw11]
                  have HLK := Aside0.mk (show Lkd w10 w11 gb from hw11 ▸ (((Lkd.refl w10 gb).set 0 _).set 1 _).set 2 _)
                  have HK11 := Aside0.mk (show w11.heap[gb]? = some (.cells #[.int .u8 x.f0, .bool x.f1, .int .i64 x.f2] 81 (0, 0)) from hw11 ▸ blk_put (cs' := #[.int .u8 x.f0, .bool x.f1, .int .i64 x.f2]) (blk_put (cs' := #[.int .u8 x.f0, .bool x.f1, .int .i64 0]) (blk_put (cs' := #[.int .u8 x.f0, .bool false, .int .i64 0]) HK10.out 0 _ rfl) 1 _ rfl) 2 _ rfl)
                  have HB11 := Aside0.mk (HB10.out.only HLK.out HGB.out)
                  have HX11 := Aside0.mk ((HLK.out.blk gx (blk_ne HX10.out HK10.out (by decide))).trans HX10.out)
                  have HO11 := Aside0.mk (R_only HO10.out HLK.out HK10.out (by decide))
                  clear hw11 k0 k1 k2 m0 m1 m2 x0 y0 y1 y2 HB10 HX10 HO10 HK10 HLK HB9 HX9 HO9
                  have k0 := (blk_cell HK11.out 0).trans rfl
                  have k1 := (blk_cell HK11.out 1).trans rfl
                  have k2 := (blk_cell HK11.out 2).trans rfl
                  have x0 := (blk_cell HX11.out 0).trans rfl
                  by_cases q1 : 5 < x.f2
                  · have q1b : decide (5 < x.f2) = true := decide_eq_true q1
                    have hskip : ¬ keepS x = true := by simp [keepS, q1]
                    have HFS := Aside0.mk (show (fl.take (i + 1)).filter keepS = (fl.take i).filter keepS from by rw [filter_step fl i hlt, if_neg (by rw [HXI.out]; exact hskip), List.append_nil])
                    clear hskip
                    go_wp2
                    go_roundg (fl.length - (i + 1))
                    case measure => have := HG.out; omega
                    case rel => exact ⟨i + 1, by rw [wrap_next i (by have := HFN.out; omega)], by rw [HFS.out], ⟨rfl⟩, ⟨by omega⟩, HB11, HX11, ⟨by rw [HFS.out]; exact HO11.out⟩, ⟨by rw [HFS.out]; exact HBQ.out⟩, ⟨by rw [HFS.out]; have := HSZ.out; rw [Nat.add_mul]; omega⟩⟩
                  · have q1b : decide (5 < x.f2) = false := decide_eq_false q1
                    by_cases q2 : x.f0 = 0
                    · have q2b : (x.f0 == 0) = true := by simpa using q2
                      have hskip : ¬ keepS x = true := by simp [keepS, q2]
                      have HFS := Aside0.mk (show (fl.take (i + 1)).filter keepS = (fl.take i).filter keepS from by rw [filter_step fl i hlt, if_neg (by rw [HXI.out]; exact hskip), List.append_nil])
                      clear hskip
                      go_wp2
                      go_roundg (fl.length - (i + 1))
                      case measure => have := HG.out; omega
                      case rel => exact ⟨i + 1, by rw [wrap_next i (by have := HFN.out; omega)], by rw [HFS.out], ⟨rfl⟩, ⟨by omega⟩, HB11, HX11, ⟨by rw [HFS.out]; exact HO11.out⟩, ⟨by rw [HFS.out]; exact HBQ.out⟩, ⟨by rw [HFS.out]; have := HSZ.out; rw [Nat.add_mul]; omega⟩⟩
                    · have q2b : (x.f0 == 0) = false := by simpa using q2
                      by_cases q3 : x.f0 = 20
                      · have q3b : (x.f0 == 20) = true := by simpa using q3
                        have hskip : ¬ keepS x = true := by simp [keepS, q3]
                        have HFS := Aside0.mk (show (fl.take (i + 1)).filter keepS = (fl.take i).filter keepS from by rw [filter_step fl i hlt, if_neg (by rw [HXI.out]; exact hskip), List.append_nil])
                        clear hskip
                        go_wp2
                        go_roundg (fl.length - (i + 1))
                        case measure => have := HG.out; omega
                        case rel => exact ⟨i + 1, by rw [wrap_next i (by have := HFN.out; omega)], by rw [HFS.out], ⟨rfl⟩, ⟨by omega⟩, HB11, HX11, ⟨by rw [HFS.out]; exact HO11.out⟩, ⟨by rw [HFS.out]; exact HBQ.out⟩, ⟨by rw [HFS.out]; have := HSZ.out; rw [Nat.add_mul]; omega⟩⟩
                      · have q3b : (x.f0 == 20) = false := by simpa using q3
                        by_cases q4 : x.f0 = 15
                        · have q4b : (x.f0 == 15) = true := by simpa using q4
                          have hskip : ¬ keepS x = true := by simp [keepS, q4]
                          have HFS := Aside0.mk (show (fl.take (i + 1)).filter keepS = (fl.take i).filter keepS from by rw [filter_step fl i hlt, if_neg (by rw [HXI.out]; exact hskip), List.append_nil])
                          clear hskip
                          go_wp2
                          go_roundg (fl.length - (i + 1))
                          case measure => have := HG.out; omega
                          case rel => exact ⟨i + 1, by rw [wrap_next i (by have := HFN.out; omega)], by rw [HFS.out], ⟨rfl⟩, ⟨by omega⟩, HB11, HX11, ⟨by rw [HFS.out]; exact HO11.out⟩, ⟨by rw [HFS.out]; exact HBQ.out⟩, ⟨by rw [HFS.out]; have := HSZ.out; rw [Nat.add_mul]; omega⟩⟩
                        · have q4b : (x.f0 == 15) = false := by simpa using q4
                          have hkeep : keepS x = true := by simp [keepS, q1, q2, q3, q4]
                          have HFS := Aside0.mk (show (fl.take (i + 1)).filter keepS = (fl.take i).filter keepS ++ [x] from by rw [filter_step fl i hlt, if_pos (by rw [HXI.out]; exact hkeep), HXI.out])
                          clear hkeep
                          obtain ⟨its, hits⟩ : ∃ its, its = itemsOf B ((fl.take i).filter keepS) := ⟨_, rfl⟩
                          obtain ⟨m, hm⟩ : ∃ m, m = ((fl.take i).filter keepS).length := ⟨_, rfl⟩
                          have HIB := Aside0.mk hits
                          have HKM := Aside0.mk hm
                          have HIM := Aside0.mk (show its.length = m by rw [hits, hm, itemsOf_length])
                          have HML := Aside0.mk (show m ≤ 20 by rw [hm]; exact filter_len fl i HFN.out)
                          rw [← hits] at HO11
                          clear hits hm
                          obtain ⟨iA, ic, hv⟩ := Kd.R_slice HO11.out
                          subst hv
                          rw [HIM.out] at HO11
                          have u16m : IntKind.u16.wrap (m : Int) = (m : Int) := by have := HML.out; simp [IntKind.wrap, IntKind.bits, IntKind.signed]; omega
                          rw [HIM.out]
                          by_cases h1 : B.length ≤ m
                          · have h1b : decide ((B.length : Int) ≤ (m : Int)) = true := decide_eq_true (by omega)
                            have h1c : decide (B.length ≤ m) = true := decide_eq_true h1
                            have HBZ := Aside0.mk (HB7.out.trans (Below.mono HB11.out HB7.out.size))
                            clear h1
                            go_wp2
                            go_ret
                            exact ⟨rfl, HBZ.out⟩
                          · have h1b : decide ((B.length : Int) ≤ (m : Int)) = false := decide_eq_false (by omega)
                            have h1c : decide (B.length ≤ m) = false := decide_eq_false h1
                            have m0 : (0 : Int) ≤ (m : Int) := by omega
                            have m1 : (m : Int) < (B.length : Int) := by omega
                            obtain ⟨ad, hA, hc⟩ := Kd.at_string HB0.out (m : Int) m0 m1
                            subst hA
                            have hrd : rdOf ByteArray.empty B (m : Int) = bodyAt B m := by simp [rdOf, bodyAt, show m < B.length by omega]
                            rw [hrd] at hc
                            simp only [Int.toNat_natCast] at hc
                            replace hc := (HB7.out.cell (World.block_lt_of_cell? w _ hc)).trans hc
                            replace hc := (HB11.out.cell (World.block_lt_of_cell? w7 _ hc)).trans hc
                            obtain ⟨s, hs⟩ : ∃ s, s = bodyAt B m := ⟨_, rfl⟩
                            rw [← hs] at hc
                            have HSB := Aside0.mk hs
                            clear hs hrd h1
                            have m0t := eq_true m0
                            have m1t := eq_true m1
                            by_cases h2 : s.size ≤ 2000
                            · have h2b : decide ((2000 : Int) < (s.size : Int)) = false := decide_eq_false (by omega)
                              have h2c : decide (2000 < s.size) = false := decide_eq_false (by omega)
                              have HSS := Aside0.mk h2
                              clear h2
                              go_upto_region 15 with ((with_reducible refine gate_dst (N := 97) rfl ?_); refine Kd.R_append kFi (w0 := w7) w7.heap.size rfl (.tmp 86) (.tmp 96) 22 62 (.agg #[.string ⟨#[]⟩, .int .u16 0, .int .u16 0, .int .u8 0, .bool false]) 24 rfl Tryz.underlying22 info_fi rfl (by decide) (by omega) (.slice iA m ic) its (⟨s, 0, (m : Int), x.f0, x.f1⟩ : Fi) [.string s, .int .u16 0, .int .u16 m, .int .u8 x.f0, .bool x.f1] (fun _ => True) (fun _ => False) rfl rfl (k62_mkM _ _ _ (⟨s, 0, (m : Int), x.f0, x.f1⟩ : Fi)) (fun _ hk => hk.elim) (fun _ _ => trivial) HO11.out HB11.out HB11.out.size (by have := HML.out; have := HIM.out; omega) ?_; intro v12 w12 ho hb hg hat; have HO12 := Aside0.mk ho; have HB12 := Aside0.mk hb; have HK12 := Aside0.mk (blk_grown HK11.out hg (Kd.R_ne HO11.out HK11.out (by decide))); have HX12 := Aside0.mk (blk_grown HX11.out hg (Kd.R_ne HO11.out HX11.out (by decide))); clear ho hb hg hat x0 k0 k1 k2; have k2 := (blk_cell HK12.out 2).trans rfl; have x0 := (blk_cell HX12.out 0).trans rfl)
                              have HIXX := Aside0.mk (idxOf_snoc ck ((fl.take i).filter keepS) x)
                              obtain ⟨sj, hsj⟩ : ∃ sj, sj = catB B (idxOf ck ((fl.take i).filter keepS)) := ⟨_, rfl⟩
                              rw [← hsj] at HSZ ⊢
                              have HSJ := Aside0.mk hsj
                              clear hsj
                              have hss : sj.size + s.size ≤ 9223372036854775807 := by
                                have h1 := HSZ.out
                                have h2 := HSS.out
                                have h3 : i * 2000 ≤ 20 * 2000 := Nat.mul_le_mul_right _ (by have := HFN.out; omega)
                                omega
                              cases hck : ck with
                              | false =>
                                have HIX := Aside0.mk (show catB B (idxOf ck ((fl.take i).filter keepS ++ [x])) = sj ++ s by rw [HIXX.out, if_pos (by simp [countS, hck]), catB_snoc, ← HSJ.out, ← HKM.out, ← HSB.out])
                                subst hck
                                go_wp2
                                go_roundg (fl.length - (i + 1))
                                case measure => have := HG.out; omega
                                case rel => exact ⟨i + 1, by rw [wrap_next i (by have := HFN.out; omega)], by rw [HFS.out, HIX.out], ⟨rfl⟩, ⟨by omega⟩, HB12, HX12, ⟨by rw [HFS.out, itemsOf_snoc, ← HIB.out, ← HKM.out, ← HSB.out]; exact HO12.out⟩, ⟨by
                                  rw [HFS.out]
                                  intro j hj
                                  rw [List.length_append, List.length_singleton] at hj
                                  by_cases e : j < ((fl.take i).filter keepS).length
                                  · exact HBQ.out j e
                                  · obtain rfl : j = ((fl.take i).filter keepS).length := by omega
                                    rw [← HKM.out, ← HSB.out]
                                    exact HSS.out⟩, ⟨by
                                  rw [HFS.out, HIX.out, Nat.add_mul]
                                  have h1 := HSZ.out
                                  have h2 := HSS.out
                                  rw [ByteArray.size_append]; omega⟩⟩
                              | true =>
                                by_cases q5 : 2 < x.f2
                                · have q5b : decide (2 < x.f2) = true := decide_eq_true q5
                                  have HIX := Aside0.mk (show catB B (idxOf ck ((fl.take i).filter keepS ++ [x])) = sj ++ s by rw [HIXX.out, if_pos (by simp [countS, q5]), catB_snoc, ← HSJ.out, ← HKM.out, ← HSB.out])
                                  subst hck
                                  clear q5
                                  go_wp2
                                  go_roundg (fl.length - (i + 1))
                                  case measure => have := HG.out; omega
                                  case rel => exact ⟨i + 1, by rw [wrap_next i (by have := HFN.out; omega)], by rw [HFS.out, HIX.out], ⟨rfl⟩, ⟨by omega⟩, HB12, HX12, ⟨by rw [HFS.out, itemsOf_snoc, ← HIB.out, ← HKM.out, ← HSB.out]; exact HO12.out⟩, ⟨by
                                    rw [HFS.out]
                                    intro j hj
                                    rw [List.length_append, List.length_singleton] at hj
                                    by_cases e : j < ((fl.take i).filter keepS).length
                                    · exact HBQ.out j e
                                    · obtain rfl : j = ((fl.take i).filter keepS).length := by omega
                                      rw [← HKM.out, ← HSB.out]
                                      exact HSS.out⟩, ⟨by
                                    rw [HFS.out, HIX.out, Nat.add_mul]
                                    have h1 := HSZ.out
                                    have h2 := HSS.out
                                    rw [ByteArray.size_append]; omega⟩⟩
                                · have q5b : decide (2 < x.f2) = false := decide_eq_false q5
                                  have HIX := Aside0.mk (show catB B (idxOf ck ((fl.take i).filter keepS ++ [x])) = sj by rw [HIXX.out, if_neg (by simp [countS, hck, q5]), List.append_nil, ← HSJ.out])
                                  subst hck
                                  clear q5
                                  go_wp2
                                  go_roundg (fl.length - (i + 1))
                                  case measure => have := HG.out; omega
                                  case rel => exact ⟨i + 1, by rw [wrap_next i (by have := HFN.out; omega)], by rw [HFS.out, HIX.out], ⟨rfl⟩, ⟨by omega⟩, HB12, HX12, ⟨by rw [HFS.out, itemsOf_snoc, ← HIB.out, ← HKM.out, ← HSB.out]; exact HO12.out⟩, ⟨by
                                    rw [HFS.out]
                                    intro j hj
                                    rw [List.length_append, List.length_singleton] at hj
                                    by_cases e : j < ((fl.take i).filter keepS).length
                                    · exact HBQ.out j e
                                    · obtain rfl : j = ((fl.take i).filter keepS).length := by omega
                                      rw [← HKM.out, ← HSB.out]
                                      exact HSS.out⟩, ⟨by
                                    rw [HFS.out, HIX.out, Nat.add_mul]
                                    have h1 := HSZ.out
                                    have h2 := HSS.out
                                    omega⟩⟩
                            · have h2b : decide ((2000 : Int) < (s.size : Int)) = true := decide_eq_true (by omega)
                              have h2c : decide (2000 < s.size) = true := decide_eq_true (by omega)
                              have HBZ := Aside0.mk (HB7.out.trans (Below.mono HB11.out HB7.out.size))
                              clear h2
                              go_wp2
                              go_ret
                              exact ⟨rfl, HBZ.out⟩
                · have hltb : decide ((i : Int) < (fl.length : Int)) = false := decide_eq_false (by omega)
                  have hil : i = fl.length := by have := HI.out; omega
                  subst hil
                  clear hltb hlt
                  obtain ⟨ks, hks⟩ : ∃ ks, ks = fl.filter keepS := ⟨_, rfl⟩
                  rw [List.take_length, ← hks] at HO9 HBQ HSZ ⊢
                  have HKL := Aside0.mk (show ks.length ≤ 20 by rw [hks]; have h1 := filter_len fl fl.length HFN.out; rwa [List.take_length] at h1)
                  have HBS := HBQ
                  obtain ⟨s0, hs0⟩ : ∃ s0, s0 = catB B (idxOf ck ks) := ⟨_, rfl⟩
                  rw [← hs0] at HSZ ⊢
                  have HS0 := Aside0.mk hs0
                  have HKS := Aside0.mk (show ks = keptsOf ck ct ky rq cc cs by rw [hks, HFL.out]; rfl)
                  clear hks hs0
                  have HB5a := Aside0.mk (HB7.out.trans (Below.mono HB9.out HB7.out.size))
                  have HO5a := Aside0.mk (Kd.R_lower HO9.out HB7.out.size)
                  clear HB9 HO9 HFC HX7
                  go_wp2
                  obtain ⟨wo, rfl⟩ : ∃ wo : World, wo = wr := ⟨_, rfl⟩
                  go_loopg [10, 112] M.length (fun gk v10 v112 w' => ∃ j : Nat, v112 = .int .i64 j ∧ v10 = .string (catM s0 M j) ∧ Aside0 (gk = M.length - j) ∧ Aside0 (j ≤ M.length) ∧ Aside0 (w' = wo))
                  case atStart => exact ⟨0, rfl, by rw [catM_zero], ⟨by omega⟩, ⟨by omega⟩, ⟨rfl⟩⟩
                  case round =>
                    obtain ⟨j, rfl, rfl, HGJ, HJ, HW⟩ := hrel
                    have hwe := HW.out
                    subst hwe
                    by_cases hlt : j < M.length
                    · have hltb : decide ((j : Int) < (M.length : Int)) = true := decide_eq_true (by omega)
                      have j0 : (0 : Int) ≤ (j : Int) := by omega
                      have j1 : (j : Int) < (M.length : Int) := by omega
                      obtain ⟨ad, hA, hc⟩ := Kd.at_string HM0.out (j : Int) j0 j1
                      subst hA
                      have hrd : rdOf ByteArray.empty M (j : Int) = M[j] := by simp [rdOf, hlt]
                      rw [hrd] at hc
                      simp only [Int.toNat_natCast] at hc
                      replace hc := (HB5a.out.cell (World.block_lt_of_cell? w _ hc)).trans hc
                      have HST := Aside0.mk (catM_succ s0 M j hlt)
                      clear hrd
                      have hsm := HMS.out _ (List.getElem_mem hlt)
                      have hss : (catM s0 M j).size + M[j].size ≤ 9223372036854775807 := by
                        have h1 := HSZ.out
                        have h2 := moreTo_le HMS.out j
                        have h3 : j * 2000 ≤ 10 * 2000 := Nat.mul_le_mul_right _ (by have := HM10.out; omega)
                        have h4 : fl.length * 2000 ≤ 20 * 2000 := Nat.mul_le_mul_right _ HFN.out
                        have h5 : (catM s0 M j).size = s0.size + (moreTo M j).length := by rw [← bytesOf_length, bytes_catM s0 M j (by omega), List.length_append, bytesOf_length]
                        omega
                      have j2 : (j : Int) < 1000 := by have := HM10.out; omega
                      clear hsm
                      generalize M[j] = t at *
                      generalize catM s0 M j = sj at *
                      have j0t := eq_true j0
                      have j1t := eq_true j1
                      go_wp2
                      go_roundg (M.length - (j + 1))
                      case measure => have := HGJ.out; omega
                      case rel => exact ⟨j + 1, by go_num, by rw [HST.out], ⟨rfl⟩, ⟨by omega⟩, ⟨rfl⟩⟩
                    · have hltb : decide ((j : Int) < (M.length : Int)) = false := decide_eq_false (by omega)
                      have hjm : j = M.length := by have := HJ.out; omega
                      subst hjm
                      have HB6 := HB5a
                      have HO6 := HO5a
                      obtain ⟨WT, hWT⟩ : ∃ WT, WT = catM s0 M M.length := ⟨_, rfl⟩
                      rw [← hWT]
                      have HWT := Aside0.mk (show strOfNums (sessBytes ((itemsOf B ks).map itF) 0 M) = WT by rw [hWT, HS0.out, HKS.out]; exact session_text B M ck ct ky rq cc cs)
                      have HWS := Aside0.mk (show WT.size ≤ 100000000 by
                        rw [hWT, ← bytesOf_length, bytes_catM _ _ _ (Nat.le_refl _), List.length_append, bytesOf_length]
                        have h1 := HSZ.out
                        have h2 := moreTo_le HMS.out M.length
                        have h3 : M.length * 2000 ≤ 10 * 2000 := Nat.mul_le_mul_right _ HM10.out
                        have h4 : (fl.length) * 2000 ≤ 20 * 2000 := Nat.mul_le_mul_right _ HFN.out
                        omega)
                      clear hWT hltb hlt
                      have HKP := Aside0.mk (kept_items B ks (by have := HKL.out; omega) HBS.out)
                      obtain ⟨its, hits⟩ : ∃ its, its = itemsOf B ks := ⟨_, rfl⟩
                      rw [← hits] at HO6 HKP
                      have HIL := Aside0.mk (show its.length = ks.length by rw [hits, itemsOf_length])
                      have HIT := Aside0.mk hits
                      clear hits
                      obtain ⟨vA, vc, hv⟩ := Kd.R_slice HO6.out
                      subst hv
                      have HCI := Aside0.mk ((Kd.R_reads' HO6.out).2.2)
                      have HCL := Aside0.mk ((Kd.R_reads' HO6.out).2.1)
                      obtain ⟨ls, hls⟩ : ∃ ls, ls = its.map stF := ⟨_, rfl⟩
                      obtain ⟨s3, hs3⟩ : ∃ s3, s3 = ls ++ [kSess kind M] := ⟨_, rfl⟩
                      have HPL := Aside0.mk (show laws_pushes.f (its.length + 1) its = some ls by rw [hls]; exact pushes_f its (by have := HIL.out; have := HKL.out; omega))
                      have HLL := Aside0.mk (show ls.length ≤ 60 by rw [hls, List.length_map]; have := HIL.out; have := HKL.out; omega)
                      have HS3 := Aside0.mk hs3
                      have HL3 := Aside0.mk (show s3.length = its.length + 1 by rw [hs3, hls]; simp)
                      have HFT := Aside0.mk (show ∀ i, i < s3.length → FitS (runTo s3 i) (s3.getD i z31) from by rw [hs3, hls]; exact fun i hi => sess_fit HKP.out HK0.out HK1.out (by have := HM10.out; omega) HMS.out i hi)
                      obtain ⟨TX, hTX⟩ : ∃ TX, TX = tsum kind WT := ⟨_, rfl⟩
                      have HTOLD := Aside0.mk (show (toldsS s3 s3.length)[its.length]? = some ⟨true, 0, TX, []⟩ by rw [hs3, hls, sess_told, hTX, HIT.out, HWT.out])
                      obtain ⟨kf, hkf, _⟩ := tsum_f kind WT HK0.out HK1.out HWS.out
                      rw [← hTX] at hkf
                      have HSM := Aside0.mk (show PSes.spec_ToySum.f kf kind WT = some TX by rw [sum_f]; exact hkf)
                      clear hls hs3 hTX hkf
                      go_upto_region 24 with (first
                        | (go_at_call 10; refine (laws_pushes.calls (its.length + 1) vA vc its ls _ HCI.out HCL.out HPL.out).mono ?_; rintro e w7 ⟨v7, rfl, hs, hb⟩; have HB7 := Aside0.mk (HB6.out.trans (Below.mono hb HB6.out.size)); have HO7 := Aside0.mk (Kd.R_lower (Kd.S_R hs) HB6.out.size); clear hs hb)
                        | ((with_reducible refine gate_dst (N := 126) rfl ?_); refine C_append k31 (w0 := w) w.heap.size rfl (.tmp 121) (.tmp 125) 25 31 _ 104 rfl Tryz.underlying25 info31 rfl (by decide) (by omega) v7 ls (kSess kind M) [.int .i64 5, .string ⟨#[]⟩, .int .u16 0, .int .u16 0, .int .u8 0, .bool false, .slice none 0 0, .int .i64 0, .int .i64 0, .int .i64 kind, .slice AM M.length cm] (fun _ => True) rfl rfl (fun w1 hb => sess_K LM.out (Kd.C_below HM0.out hb)) HO7.out HB7.out HB7.out.size (by have := HLL.out; omega) ?_; intro SA sc w12 ho hb; rw [← HS3.out] at ho ⊢; have HSR := Aside0.mk ho; have HB12 := Aside0.mk hb; clear ho hb)
                        | (go_at_call 12; refine (cacheS_calls SA sc s3 w12 HSR.out (by have := HL3.out; have := HIL.out; have := HKL.out; omega) HFT.out).mono ?_; rintro e w13 ⟨v13, rfl, ht, hb⟩; have HT13 := Aside0.mk ht; have HB13 := Aside0.mk (HB12.out.trans (Below.mono hb HB12.out.size)); clear ht hb))
                      clear HO7 HB7 HSR
                      obtain ⟨g13, p13, rfl, hg13, _, _⟩ := Kd.R_form HT13.out (by rw [toldsS_length, HL3.out]; omega)
                      rw [toldsS_length] at HT13 ⊢
                      obtain ⟨y1, y2⟩ := told_cells0 HT13.out its.length ⟨true, 0, TX, []⟩ HTOLD.out
                      have HY13 := Aside0.mk (And.intro y1 y2)
                      clear y1 y2 hg13
                      obtain ⟨n1, hn1⟩ : ∃ n1, n1 = its.length := ⟨_, rfl⟩
                      rw [← hn1] at HY13 HL3 ⊢
                      have hl3 := HL3.out
                      rw [hl3] at HT13 ⊢
                      have hn20 : n1 ≤ 20 := by rw [hn1]; have := HIL.out; have := HKL.out; omega
                      have hsum : IntKind.i64.wrap ((n1 : Int) + 1) = ((n1 + 1 : Nat) : Int) := by rw [IntKind.wrap_i64]; omega
                      have m0 := eq_true (show (0 : Int) ≤ (n1 : Int) by omega)
                      have m1 := eq_true (show (n1 : Int) < ((n1 + 1 : Nat) : Int) by omega)
                      have m2 := eq_true (show (n1 : Int) < (n1 : Int) + 1 by omega)
                      clear hn1 hl3
                      refine wp_region_noPanic ?_
                      refine start_ (n := 27) (S := fun w' => w'.cell? ⟨g13, n1 * 5, none⟩ = some (.bool true) ∧ w'.cell? ⟨g13, n1 * 5 + 2, none⟩ = some (.string TX)) (ds := []) #[false, false, false, false, false, false, false, false, false, false, false, false, false, false, false, false, false, false, false, false, false, false, false, false, false, false, false] (by kernel_rfl) rfl rfl HY13.out (fun hHeld => ?_)
                      have HB17 := Aside0.mk (below_drew HB13.out)
                      have HY17 := Aside0.mk hHeld
                      clear HY13 HT13 HB13
                      generalize w13.drew = w17 at *
                      refine pure_ (i := 0) (N := (some 128)) (v := ?_) (a' := ?_) #[true, false, false, false, false, false, false, false, false, false, false, false, false, false, false, false, false, false, false, false, false, false, false, false, false, false, false] rfl rfl (by kernel_rfl) (fun _ _ _ h => h.elim) (Or.inl ⟨by rfl, ?_⟩) ?_ ?_
                      rotate_left
                      · intro w'
                        go_simp
                        with_reducible rfl
                      rotate_left
                      · simp only [Act.put, List.setIfInBounds_toArray, List.set_cons_zero, List.set_cons_succ, i64_w, i32_w]
                        rfl
                      refine pure_ (i := 1) (N := (some 129)) (v := ?_) (a' := ?_) #[true, true, false, false, false, false, false, false, false, false, false, false, false, false, false, false, false, false, false, false, false, false, false, false, false, false, false] rfl rfl (by kernel_rfl) (fun _ _ _ h => h.elim) (Or.inl ⟨by rfl, ?_⟩) ?_ ?_
                      rotate_left
                      · intro w'
                        go_simp
                        with_reducible rfl
                      rotate_left
                      · simp only [Act.put, List.setIfInBounds_toArray, List.set_cons_zero, List.set_cons_succ, i64_w, i32_w]
                        rfl
                      refine pure_ (i := 2) (N := (some 130)) (v := ?_) (a' := ?_) #[true, true, true, false, false, false, false, false, false, false, false, false, false, false, false, false, false, false, false, false, false, false, false, false, false, false, false] rfl rfl (by kernel_rfl) (fun _ _ _ h => h.elim) (Or.inl ⟨by rfl, ?_⟩) ?_ ?_
                      rotate_left
                      · intro w'
                        go_simp
                        with_reducible rfl
                      rotate_left
                      · simp only [Act.put, List.setIfInBounds_toArray, List.set_cons_zero, List.set_cons_succ, i64_w, i32_w]
                        rfl
                      refine pure_ (i := 3) (N := (some 131)) (v := ?_) (a' := ?_) #[true, true, true, true, false, false, false, false, false, false, false, false, false, false, false, false, false, false, false, false, false, false, false, false, false, false, false] rfl rfl (by kernel_rfl) (fun _ _ _ h => h.elim) (Or.inl ⟨by rfl, ?_⟩) ?_ ?_
                      rotate_left
                      · intro w'
                        go_simp
                        with_reducible rfl
                      rotate_left
                      · simp only [Act.put, List.setIfInBounds_toArray, List.set_cons_zero, List.set_cons_succ, i64_w, i32_w]
                        rfl
                      refine pure_ (i := 4) (N := (some 132)) (v := ?_) (a' := ?_) #[true, true, true, true, true, false, false, false, false, false, false, false, false, false, false, false, false, false, false, false, false, false, false, false, false, false, false] rfl rfl (by kernel_rfl) (fun _ _ _ h => h.elim) (Or.inl ⟨by rfl, ?_⟩) ?_ ?_
                      rotate_left
                      · intro w'
                        go_simp
                        with_reducible rfl
                      rotate_left
                      · simp only [Act.put, List.setIfInBounds_toArray, List.set_cons_zero, List.set_cons_succ, i64_w, i32_w]
                        rfl
                      refine pure_ (i := 5) (N := (some 133)) (v := ?_) (a' := ?_) #[true, true, true, true, true, true, false, false, false, false, false, false, false, false, false, false, false, false, false, false, false, false, false, false, false, false, false] rfl rfl (by kernel_rfl) (fun _ _ _ h => h.elim) (Or.inl ⟨by rfl, ?_⟩) ?_ ?_
                      rotate_left
                      · intro w'
                        go_simp
                        with_reducible rfl
                      rotate_left
                      · simp only [Act.put, List.setIfInBounds_toArray, List.set_cons_zero, List.set_cons_succ, i64_w, i32_w]
                        rfl
                      refine pure_ (i := 6) (N := (some 134)) (v := ?_) (a' := ?_) #[true, true, true, true, true, true, true, false, false, false, false, false, false, false, false, false, false, false, false, false, false, false, false, false, false, false, false] rfl rfl (by kernel_rfl) (fun _ _ _ h => h.elim) (Or.inl ⟨by rfl, ?_⟩) ?_ ?_
                      rotate_left
                      · intro w'
                        go_simp
                        with_reducible rfl
                      rotate_left
                      · simp only [Act.put, List.setIfInBounds_toArray, List.set_cons_zero, List.set_cons_succ, i64_w, i32_w]
                        rfl
                      refine pure_ (i := 7) (N := (some 135)) (v := ?_) (a' := ?_) #[true, true, true, true, true, true, true, true, false, false, false, false, false, false, false, false, false, false, false, false, false, false, false, false, false, false, false] rfl rfl (by kernel_rfl) (fun _ _ _ h => h.elim) (Or.inl ⟨by rfl, ?_⟩) ?_ ?_
                      rotate_left
                      · intro w'
                        go_simp
                        with_reducible rfl
                      rotate_left
                      · simp only [Act.put, List.setIfInBounds_toArray, List.set_cons_zero, List.set_cons_succ, i64_w, i32_w]
                        rfl
                      refine pure_ (i := 8) (N := (some 136)) (v := ?_) (a' := ?_) #[true, true, true, true, true, true, true, true, true, false, false, false, false, false, false, false, false, false, false, false, false, false, false, false, false, false, false] rfl rfl (by kernel_rfl) (fun _ _ _ h => h.elim) (Or.inl ⟨by rfl, ?_⟩) ?_ ?_
                      rotate_left
                      · intro w'
                        go_simp
                        with_reducible rfl
                      rotate_left
                      · simp only [Act.put, List.setIfInBounds_toArray, List.set_cons_zero, List.set_cons_succ, i64_w, i32_w]
                        rfl
                      refine pure_ (i := 9) (N := (some 137)) (v := ?_) (a' := ?_) #[true, true, true, true, true, true, true, true, true, true, false, false, false, false, false, false, false, false, false, false, false, false, false, false, false, false, false] rfl rfl (by kernel_rfl) (fun _ _ _ h => h.elim) (Or.inl ⟨by rfl, ?_⟩) ?_ ?_
                      rotate_left
                      · intro w'
                        go_simp
                        with_reducible rfl
                      rotate_left
                      · simp only [Act.put, List.setIfInBounds_toArray, List.set_cons_zero, List.set_cons_succ, i64_w, i32_w]
                        rfl
                      refine pure_ (i := 10) (N := (some 138)) (v := ?_) (a' := ?_) #[true, true, true, true, true, true, true, true, true, true, true, false, false, false, false, false, false, false, false, false, false, false, false, false, false, false, false] rfl rfl (by kernel_rfl) (fun _ _ _ h => h.elim) (Or.inl ⟨by rfl, ?_⟩) ?_ ?_
                      rotate_left
                      · intro w'
                        go_simp
                        with_reducible rfl
                      rotate_left
                      · simp only [Act.put, List.setIfInBounds_toArray, List.set_cons_zero, List.set_cons_succ, i64_w, i32_w]
                        rfl
                      refine pure_ (i := 11) (N := (some 139)) (v := ?_) (a' := ?_) #[true, true, true, true, true, true, true, true, true, true, true, true, false, false, false, false, false, false, false, false, false, false, false, false, false, false, false] rfl rfl (by kernel_rfl) (fun _ _ _ h => h.elim) (Or.inl ⟨by rfl, ?_⟩) ?_ ?_
                      rotate_left
                      · intro w'
                        go_simp
                        with_reducible rfl
                      rotate_left
                      · simp only [Act.put, List.setIfInBounds_toArray, List.set_cons_zero, List.set_cons_succ, i64_w, i32_w]
                        rfl
                      refine take_ (i := 12) (N := (some 140)) (v := ?_) (a' := ?_) #[true, true, true, true, true, true, true, true, true, true, true, true, true, false, false, false, false, false, false, false, false, false, false, false, false, false, false] rfl rfl (by kernel_rfl) (fun _ _ _ h => h.elim) (Or.inl ⟨by rfl, ?_⟩) hHeld ?_ ?_
                      rotate_left
                      · intro w' s0; obtain ⟨s1, s2⟩ := s0
                        go_simp
                        with_reducible rfl
                      rotate_left
                      · simp only [Act.put, List.setIfInBounds_toArray, List.set_cons_zero, List.set_cons_succ, i64_w, i32_w]
                        rfl
                      refine pure_ (i := 13) (N := (some 141)) (v := ?_) (a' := ?_) #[true, true, true, true, true, true, true, true, true, true, true, true, true, true, false, false, false, false, false, false, false, false, false, false, false, false, false] rfl rfl (by kernel_rfl) (fun _ _ _ h => h.elim) (Or.inl ⟨by rfl, ?_⟩) ?_ ?_
                      rotate_left
                      · intro w'
                        go_simp
                        with_reducible rfl
                      rotate_left
                      · simp only [Act.put, List.setIfInBounds_toArray, List.set_cons_zero, List.set_cons_succ, i64_w, i32_w]
                        rfl
                      refine pure_ (i := 14) (N := (some 142)) (v := ?_) (a' := ?_) #[true, true, true, true, true, true, true, true, true, true, true, true, true, true, true, false, false, false, false, false, false, false, false, false, false, false, false] rfl rfl (by kernel_rfl) (fun _ _ _ h => h.elim) (Or.inl ⟨by rfl, ?_⟩) ?_ ?_
                      rotate_left
                      · intro w'
                        go_simp
                        with_reducible rfl
                      rotate_left
                      · simp only [Act.put, List.setIfInBounds_toArray, List.set_cons_zero, List.set_cons_succ, i64_w, i32_w]
                        rfl
                      refine pure_ (i := 15) (N := (some 143)) (v := ?_) (a' := ?_) #[true, true, true, true, true, true, true, true, true, true, true, true, true, true, true, true, false, false, false, false, false, false, false, false, false, false, false] rfl rfl (by kernel_rfl) (fun _ _ _ h => h.elim) (Or.inl ⟨by rfl, ?_⟩) ?_ ?_
                      rotate_left
                      · intro w'
                        go_simp
                        with_reducible rfl
                      rotate_left
                      · simp only [Act.put, List.setIfInBounds_toArray, List.set_cons_zero, List.set_cons_succ, i64_w, i32_w]
                        rfl
                      refine pure_ (i := 16) (N := (some 144)) (v := ?_) (a' := ?_) #[true, true, true, true, true, true, true, true, true, true, true, true, true, true, true, true, true, false, false, false, false, false, false, false, false, false, false] rfl rfl (by kernel_rfl) (fun _ _ _ h => h.elim) (Or.inl ⟨by rfl, ?_⟩) ?_ ?_
                      rotate_left
                      · intro w'
                        go_simp
                        with_reducible rfl
                      rotate_left
                      · simp only [Act.put, List.setIfInBounds_toArray, List.set_cons_zero, List.set_cons_succ, i64_w, i32_w]
                        rfl
                      refine pure_ (i := 17) (N := (some 145)) (v := ?_) (a' := ?_) #[true, true, true, true, true, true, true, true, true, true, true, true, true, true, true, true, true, true, false, false, false, false, false, false, false, false, false] rfl rfl (by kernel_rfl) (fun _ _ _ h => h.elim) (Or.inl ⟨by rfl, ?_⟩) ?_ ?_
                      rotate_left
                      · intro w'
                        go_simp
                        with_reducible rfl
                      rotate_left
                      · simp only [Act.put, List.setIfInBounds_toArray, List.set_cons_zero, List.set_cons_succ, i64_w, i32_w]
                        rfl
                      refine pure_ (i := 18) (N := (some 146)) (v := ?_) (a' := ?_) #[true, true, true, true, true, true, true, true, true, true, true, true, true, true, true, true, true, true, true, false, false, false, false, false, false, false, false] rfl rfl (by kernel_rfl) (fun _ _ _ h => h.elim) (Or.inl ⟨by rfl, ?_⟩) ?_ ?_
                      rotate_left
                      · intro w'
                        go_simp
                        with_reducible rfl
                      rotate_left
                      · simp only [Act.put, List.setIfInBounds_toArray, List.set_cons_zero, List.set_cons_succ, i64_w, i32_w]
                        rfl
                      refine pure_ (i := 19) (N := (some 147)) (v := ?_) (a' := ?_) #[true, true, true, true, true, true, true, true, true, true, true, true, true, true, true, true, true, true, true, true, false, false, false, false, false, false, false] rfl rfl (by kernel_rfl) (fun _ _ _ h => h.elim) (Or.inl ⟨by rfl, ?_⟩) ?_ ?_
                      rotate_left
                      · intro w'
                        go_simp
                        with_reducible rfl
                      rotate_left
                      · simp only [Act.put, List.setIfInBounds_toArray, List.set_cons_zero, List.set_cons_succ, i64_w, i32_w]
                        rfl
                      refine take_ (i := 20) (N := (some 148)) (v := ?_) (a' := ?_) #[true, true, true, true, true, true, true, true, true, true, true, true, true, true, true, true, true, true, true, true, true, false, false, false, false, false, false] rfl rfl (by kernel_rfl) (fun _ _ _ h => h.elim) (Or.inl ⟨by rfl, ?_⟩) hHeld ?_ ?_
                      rotate_left
                      · intro w' s0; obtain ⟨s1, s2⟩ := s0
                        go_simp
                        with_reducible rfl
                      rotate_left
                      · simp only [Act.put, List.setIfInBounds_toArray, List.set_cons_zero, List.set_cons_succ, i64_w, i32_w]
                        rfl
                      refine pure_ (i := 21) (N := (some 149)) (v := ?_) (a' := ?_) #[true, true, true, true, true, true, true, true, true, true, true, true, true, true, true, true, true, true, true, true, true, true, false, false, false, false, false] rfl rfl (by kernel_rfl) (fun _ _ _ h => h.elim) (Or.inl ⟨by rfl, ?_⟩) ?_ ?_
                      rotate_left
                      · intro w'
                        go_simp
                        with_reducible rfl
                      rotate_left
                      · simp only [Act.put, List.setIfInBounds_toArray, List.set_cons_zero, List.set_cons_succ, i64_w, i32_w]
                        rfl
                      refine pure_ (i := 22) (N := (some 150)) (v := ?_) (a' := ?_) #[true, true, true, true, true, true, true, true, true, true, true, true, true, true, true, true, true, true, true, true, true, true, true, false, false, false, false] rfl rfl (by kernel_rfl) (fun _ _ _ h => h.elim) (Or.inl ⟨by rfl, ?_⟩) ?_ ?_
                      rotate_left
                      · intro w'
                        go_simp
                        with_reducible rfl
                      rotate_left
                      · simp only [Act.put, List.setIfInBounds_toArray, List.set_cons_zero, List.set_cons_succ, i64_w, i32_w]
                        rfl
                      refine one_ (i := 23) (N := (some 151)) #[true, true, true, true, true, true, true, true, true, true, true, true, true, true, true, true, true, true, true, true, true, true, true, true, false, false, false] rfl rfl (by kernel_rfl) (by decide) (fun K hK => ?_)
                      refine goes_ Tryz.func26 (by kernel_rfl) rfl #[.int .i64 kind, .string WT] (by rfl) rfl rfl (by simp only [List.map_toArray, List.map_cons, List.map_nil]; rfl) ?_
                      refine (PSes.spec_ToySum.calls kf kind WT TX _ HSM.out).mono ?_
                      rintro e w18 ⟨rfl, hb⟩
                      refine ⟨_, rfl, ?_⟩
                      have HB18 := Aside0.mk (HB17.out.trans (Below.mono hb HB17.out.size))
                      have HY18 := Aside0.mk (And.intro ((hb.cell (World.block_lt_of_cell? _ _ HY17.out.1)).trans HY17.out.1) ((hb.cell (World.block_lt_of_cell? _ _ HY17.out.2)).trans HY17.out.2))
                      refine hK.out _ _ HY18.out (fun hHeld => ?_)
                      clear hK K hb
                      refine norm_ (a' := ?_) ?_ ?_
                      rotate_left
                      · simp only [Act.put, List.setIfInBounds_toArray, List.set_cons_zero, List.set_cons_succ]
                        rfl
                      refine pure_ (i := 24) (N := (some 152)) (v := ?_) (a' := ?_) #[true, true, true, true, true, true, true, true, true, true, true, true, true, true, true, true, true, true, true, true, true, true, true, true, true, false, false] rfl rfl (by kernel_rfl) (fun _ _ _ h => h.elim) (Or.inl ⟨by rfl, ?_⟩) ?_ ?_
                      rotate_left
                      · intro w'
                        go_simp
                        with_reducible rfl
                      rotate_left
                      · simp only [Act.put, List.setIfInBounds_toArray, List.set_cons_zero, List.set_cons_succ, i64_w, i32_w]
                        rfl
                      refine pure_ (i := 25) (N := (some 153)) (v := ?_) (a' := ?_) #[true, true, true, true, true, true, true, true, true, true, true, true, true, true, true, true, true, true, true, true, true, true, true, true, true, true, false] rfl rfl (by kernel_rfl) (fun _ _ _ h => h.elim) (Or.inl ⟨by rfl, ?_⟩) ?_ ?_
                      rotate_left
                      · intro w'
                        go_simp
                        with_reducible rfl
                      rotate_left
                      · simp only [Act.put, List.setIfInBounds_toArray, List.set_cons_zero, List.set_cons_succ, i64_w, i32_w]
                        rfl
                      refine pure_ (i := 26) (N := (some 8)) (v := ?_) (a' := ?_) #[true, true, true, true, true, true, true, true, true, true, true, true, true, true, true, true, true, true, true, true, true, true, true, true, true, true, true] rfl rfl (by kernel_rfl) (fun _ _ _ h => h.elim) (Or.inl ⟨by rfl, ?_⟩) ?_ ?_
                      rotate_left
                      · intro w'
                        go_simp
                        with_reducible rfl
                      rotate_left
                      · simp only [Act.put, List.setIfInBounds_toArray, List.set_cons_zero, List.set_cons_succ, i64_w, i32_w]
                        rfl
                      refine done_ (by kernel_rfl) ?_
                      refine NoPanic.normal ?_
                      go_wp2
                      go_ret
                      exact ⟨rfl, HB18.out⟩
end Go.Proofs.YtmkbebincjppnaaGreatDoor
