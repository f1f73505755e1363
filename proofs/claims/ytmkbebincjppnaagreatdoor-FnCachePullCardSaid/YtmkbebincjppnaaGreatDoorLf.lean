/- laws.FnCacheFinish returns true: its walk. -/
import Derived.Test.YtmkbebincjppnaaGreatDoorRn
namespace Go.Proofs.YtmkbebincjppnaaGreatDoor
open Go.RowKit Go.Proofs.YtmkbebincjppnaaGreatDoorW.PrintWords Go.Proofs.YtmkbebincjppnaaGreatDoorW.PrintLast Go.Proofs.YtmkbebincjppnaaGreatDoorW.PrintMore Go.Proofs.YtmkbebincjppnaaGreatDoor.PLib
set_option linter.unusedVariables false
set_option linter.unusedSimpArgs false

theorem info_fi : (Tryz.prog.info? 62).map (fun i => (i.zero, i.size, i.bytes)) = some (some (.agg #[.string ⟨#[]⟩, .int .u16 0, .int .u16 0, .int .u8 0, .bool false]), 5, 24) := by kernel_rfl
theorem R_rows {α : Type} {d : Kd α} {e base : Nat} {ok : Nat → Prop} {w : World} {v : Value} {xs : List α} (h : d.R e w base ok v xs) : ∃ A c, v = .slice A xs.length c ∧ xs.length ≤ c ∧ ReadsRow (d.M w base (fun k => ok k ∧ some k ≠ v.ownBlock)) d.sz w A xs.length xs := by
  obtain ⟨A, c, he, hl, hr⟩ := OwnRow.reads h.2
  exact ⟨A, c, he, hl, hr⟩
theorem kFi_M {w w' : World} {base : Nat} {ok : Nat → Prop} {x : Fi} {cs : List Value} (h : kFi.K w x cs) : kFi.M w' base ok x cs := by
  rw [k62_open h]
  exact k62_mkM _ _ _ x
theorem fits_len {k : Nat} {l : List Fi} (h : laws_zzFits1.f k l = some true) : l.length ≤ 2147483647 := by
  unfold laws_zzFits1.f at h
  split at h
  · simp at h
  · omega
theorem grown_cell {w w1 : World} (hg : w.grownBy w1 none) {a : Addr} {v : Value} (h : w.cell? a = some v) : w1.cell? a = some v := (World.cell?_of_block (hg.block a.block (World.block_lt_of_cell? w a h) (by simp))).trans h
/-- What a told element's cells are. -/
theorem told_cells {w : World} {e base g n c : Nat} {ok : Nat → Prop} {ts : List Told} (h : kTold.R e w base ok (.slice (some ⟨g, 0, none⟩) n c) ts) (i : Nat) (t : Told) (ht : ts[i]? = some t) :
    ∃ pv, w.cell? ⟨g, i * 5 + 2, none⟩ = some (.string t.text) ∧ w.cell? ⟨g, i * 5 + 3, none⟩ = some pv ∧ kPd.R 71 w base (fun _ => True) pv t.pulled := by
  obtain ⟨_, inner, ho, hr⟩ := h
  have h2 := hr.2 i t ht
  obtain ⟨_, _, he, rfl, ⟨_, _, rfl, rfl, ⟨_, _, rfl, rfl, ⟨_, _, rfl, ⟨pv, rfl, hp⟩, rfl⟩⟩⟩⟩ := h2
  have hin : ∀ j u, ([.bool t.ok] ++ ([.int .i64 t.next] ++ ([.string t.text] ++ ([pv] ++ [.slice none 0 0]))) : List Value)[j]? = some u → inner[i * 5 + j]? = some u := by
    intro j u hu
    rw [← he] at hu
    have hj : j < 5 := by
      have := (List.getElem?_eq_some_iff.1 hu).1
      rw [List.length_take] at this
      have h5 : kTold.sz = 5 := rfl
      omega
    rw [List.getElem?_take, if_pos (by exact hj), List.getElem?_drop] at hu
    exact hu
  have hc : ∀ j u, ([.bool t.ok] ++ ([.int .i64 t.next] ++ ([.string t.text] ++ ([pv] ++ [.slice none 0 0]))) : List Value)[j]? = some u → w.cell? ⟨g, i * 5 + j, none⟩ = some u := by
    intro j u hu
    have h5 := ho.cells (g := g) rfl (i * 5 + j) u (hin j u hu)
    rwa [add_plain] at h5
  exact ⟨pv, hc 2 _ rfl, hc 3 _ rfl, Kd.R_mono hp (fun _ _ => trivial)⟩
/-- The law's own three steps, laid. -/
theorem x_lit {w14 : World} {base : Nat} (hbase : base ≤ w14.heap.size) {qA : Option Addr} {qm qc : Nat} (h : k36.R 36 w14 base (fun _ => True) (.slice qA qm qc) [⟨1, 0, true, false⟩]) :
    k31.R 31 (w14.alloc (.cells #[.int .i64 0, .string ⟨#[120]⟩, .int .u16 0, .int .u16 0, .int .u8 1, .bool true, .slice none 0 0, .int .i64 0, .int .i64 0, .int .i64 0, .slice none 0 0, .int .i64 1, .string ⟨#[]⟩, .int .u16 0, .int .u16 0, .int .u8 0, .bool false, .slice none 0 0, .int .i64 0, .int .i64 0, .int .i64 0, .slice none 0 0, .int .i64 3, .string ⟨#[]⟩, .int .u16 0, .int .u16 0, .int .u8 0, .bool false, .slice qA qm qc, .int .i64 0, .int .i64 0, .int .i64 0, .slice none 0 0] 31)) base (fun _ => True) (.slice (some ⟨w14.heap.size, 0, none⟩) 3 3) (finSteps [xItem] [] [xRule]) := by
  rw [x_steps]
  have hrep := Reps.snoc (Reps.snoc (Reps.snoc (Reps.none (k31.M w14 base (fun _ => True)) 11) (k31_mkM w14 base _ (⟨0, ⟨#[120]⟩, 0, 0, 1, true, [], 0, 0, 0, []⟩ : Sp) (Kd.R_nil _ _ _ _ _) (Kd.R_nil _ _ _ _ _)) rfl) (k31_mkM w14 base _ (⟨1, ⟨#[]⟩, 0, 0, 0, false, [], 0, 0, 0, []⟩ : Sp) (Kd.R_nil _ _ _ _ _) (Kd.R_nil _ _ _ _ _)) rfl) (k31_mkM w14 base _ (⟨3, ⟨#[]⟩, 0, 0, 0, false, [⟨1, 0, true, false⟩], 0, 0, 0, []⟩ : Sp) h (Kd.R_nil _ _ _ _ _)) rfl
  refine ⟨fun _ _ => trivial, [.int .i64 0, .string ⟨#[120]⟩, .int .u16 0, .int .u16 0, .int .u8 1, .bool true, .slice none 0 0, .int .i64 0, .int .i64 0, .int .i64 0, .slice none 0 0, .int .i64 1, .string ⟨#[]⟩, .int .u16 0, .int .u16 0, .int .u8 0, .bool false, .slice none 0 0, .int .i64 0, .int .i64 0, .int .i64 0, .slice none 0 0, .int .i64 3, .string ⟨#[]⟩, .int .u16 0, .int .u16 0, .int .u8 0, .bool false, .slice qA qm qc, .int .i64 0, .int .i64 0, .int .i64 0, .slice none 0 0], ?_, ?_⟩
  · exact World.ownsRow_lit (base := base) (e := 31) (size := 11) w14 #[.int .i64 0, .string ⟨#[120]⟩, .int .u16 0, .int .u16 0, .int .u8 1, .bool true, .slice none 0 0, .int .i64 0, .int .i64 0, .int .i64 0, .slice none 0 0, .int .i64 1, .string ⟨#[]⟩, .int .u16 0, .int .u16 0, .int .u8 0, .bool false, .slice none 0 0, .int .i64 0, .int .i64 0, .int .i64 0, .slice none 0 0, .int .i64 3, .string ⟨#[]⟩, .int .u16 0, .int .u16 0, .int .u8 0, .bool false, .slice qA qm qc, .int .i64 0, .int .i64 0, .int .i64 0, .slice none 0 0] 3 hbase (by decide) rfl
  · refine Reps.imp_ (ps := [_, _, _]) hrep (fun p c hp => k31.M_mono (fun k hk => ⟨trivial, fun he => ?_⟩) (Kd.M_below (k31.M_bound hp) (below_alloc (Below.refl _ _) _)))
    have h3 : w14.heap.size = k := by simpa [Value.ownBlock] using he.symm
    have := hk.2.2.1
    omega
theorem fin_eq (l more : List Fi) (r : List Fr) : ((l.map stF ++ [kEnd]) ++ more.map stF) ++ [kLast 3 r] = finSteps l more r := by simp [finSteps]

set_option maxHeartbeats 16000000 in
set_option maxRecDepth 100000 in
theorem finish_walk (A0 A1 A2 : Option Addr) (c0 c1 c2 : Nat) (l more : List Fi) (r : List Fr) (w : World) (h0 : kFi.C w A0 l.length l) (h1 : kFi.C w A1 more.length more) (h2 : kFr.C w A2 r.length r) (l0 : l.length ≤ c0) (l1 : more.length ≤ c1) (l2 : r.length ≤ c2) :
    Calls Tryz.prog 3 #[.slice A0 l.length c0, .slice A1 more.length c1, .slice A2 r.length c2] w fun e w' => e = .returned (.bool true) ∧ Below w.heap.size w w' := by
  have hus := Tryz.underlying31
  have hur := Tryz.underlying36
  have hut := Tryz.underlying40
  obtain ⟨k1, b1, f1⟩ := fits_f l
  obtain ⟨k2, b2, f2⟩ := fits_f more
  have H0 := Aside0.mk h0
  have H1 := Aside0.mk h1
  have H2 := Aside0.mk h2
  have F1 := Aside0.mk f1
  have F2 := Aside0.mk f2
  have L0 := Aside0.mk l0
  have L1 := Aside0.mk l1
  have L2 := Aside0.mk l2
  clear f1 f2 h0 h1 h2 l0 l1 l2
  go_enter Tryz.func3, Tryz.ntmps3
  cases b1 with
  | false =>
    go_wp2_with (go_at_call 8; refine (laws_zzFits1.calls k1 A0 c0 l false _ H0.out L0.out F1.out).mono ?_; rintro e w1 ⟨rfl, hb⟩; have HB1 := Aside0.mk hb; clear hb)
    go_ret
    exact ⟨rfl, HB1.out⟩
  | true =>
    cases b2 with
    | false =>
      go_wp2_with (first
        | (go_at_call 8; refine (laws_zzFits1.calls k2 A1 c1 more false _ (Kd.C_below H1.out HB1.out) L1.out F2.out).mono ?_; rintro e w2 ⟨rfl, hb⟩; have HB2 := Aside0.mk (HB1.out.trans (Below.mono hb HB1.out.size)); clear hb)
        | (go_at_call 8; refine (laws_zzFits1.calls k1 A0 c0 l true w H0.out L0.out F1.out).mono ?_; rintro e w1 ⟨rfl, hb⟩; have HB1 := Aside0.mk hb; clear hb))
      go_ret
      exact ⟨rfl, HB2.out⟩
    | true =>
      by_cases hr : (r.length : Int) > 2147483647
      · have hrb : decide ((2147483647 : Int) < (r.length : Int)) = true := decide_eq_true hr
        clear hr
        go_wp2_with (first
          | (go_at_call 8; refine (laws_zzFits1.calls k2 A1 c1 more true _ (Kd.C_below H1.out HB1.out) L1.out F2.out).mono ?_; rintro e w2 ⟨rfl, hb⟩; have HB2 := Aside0.mk (HB1.out.trans (Below.mono hb HB1.out.size)); clear hb)
          | (go_at_call 8; refine (laws_zzFits1.calls k1 A0 c0 l true w H0.out L0.out F1.out).mono ?_; rintro e w1 ⟨rfl, hb⟩; have HB1 := Aside0.mk hb; clear hb))
        go_ret
        exact ⟨rfl, HB2.out⟩
      · have hrb : decide ((2147483647 : Int) < (r.length : Int)) = false := decide_eq_false hr
        have HLA := Aside0.mk (show ([] : List Fi).length + l.length ≤ 2147483647 by have := fits_len F1.out; simpa using this)
        have HLB := Aside0.mk (show ([] ++ l : List Fi).length + more.length ≤ 4294967294 by have := fits_len F1.out; have := fits_len F2.out; simp; omega)
        clear hr
        go_upto_region 3 with (first
          | (go_at_call 8; refine (laws_zzFits1.calls k2 A1 c1 more true _ (Kd.C_below H1.out HB1.out) L1.out F2.out).mono ?_; rintro e w2 ⟨rfl, hb⟩; have HB2 := Aside0.mk (HB1.out.trans (Below.mono hb HB1.out.size)); clear hb)
          | (go_at_call 8; refine (laws_zzFits1.calls k1 A0 c0 l true w H0.out L0.out F1.out).mono ?_; rintro e w1 ⟨rfl, hb⟩; have HB1 := Aside0.mk hb; clear hb))
        have HR0 := Aside0.mk hrb
        clear hrb
        obtain ⟨lm, hlm⟩ : ∃ lm, lm = ([] ++ l ++ more : List Fi) := ⟨_, rfl⟩
        have HLM := Aside0.mk hlm
        clear hlm
        by_cases hkp : KeptP lm
        · have HKP := Aside0.mk hkp
          have HBI := Aside0.mk (show true = true ↔ KeptP lm from ⟨fun _ => hkp, fun _ => rfl⟩)
          clear hkp
          by_cases hr6 : (r.length : Int) > 60
          · have hr6b : decide ((60 : Int) < (r.length : Int)) = true := decide_eq_true hr6
            clear hr6
            go_wp2_with (first
          | ((with_reducible refine gate_dst (N := 23) rfl ?_); refine Kd.R_lit kFi (w0 := w) w.heap.size 62 rfl (N := 23) rfl (xs := []) (inner := []) (ok := fun _ => True) (okp := fun _ => False) ?hr (Reps.none _ _) (fun _ hk => hk.elim) trivial ?hb ?hs (by simp) ?_; (case hr => first | (go_simp; done) | (go_simp; rfl)); (case hb => exact HB2.out); (case hs => exact HB2.out.size); intro v3 w3 ho hb hg hat; have HO3 := Aside0.mk ho; have HB3 := Aside0.mk hb; clear ho hb hg hat)
          | ((with_reducible refine gate_dst (N := 25) rfl ?_); refine Kd.R_append_rows kFi (Rr := kFi.K w3) (w0 := w) w.heap.size rfl (.tmp 23) (.tmp 24) 22 62 (.agg #[.string ⟨#[]⟩, .int .u16 0, .int .u16 0, .int .u8 0, .bool false]) 24 rfl Tryz.underlying22 info_fi rfl (by decide) (by omega) v3 [] l A0 l.length c0 (fun _ => True) (fun _ => False) rfl rfl HO3.out (Kd.C_below H0.out HB3.out) (fun _ _ h => kFi_M h) (fun _ hk => hk.elim) (fun _ _ => trivial) HB3.out HB3.out.size (by have := HLA.out; omega) ?_; intro v4 w4 ho hb hg hat; have HO4 := Aside0.mk ho; have HB4 := Aside0.mk hb; clear ho hb hg hat)
          | ((with_reducible refine gate_dst (N := 27) rfl ?_); refine Kd.R_append_rows kFi (Rr := kFi.K w4) (w0 := w) w.heap.size rfl (.tmp 25) (.tmp 26) 22 62 (.agg #[.string ⟨#[]⟩, .int .u16 0, .int .u16 0, .int .u8 0, .bool false]) 24 rfl Tryz.underlying22 info_fi rfl (by decide) (by omega) v4 ([] ++ l) more A1 more.length c1 (fun _ => True) (fun _ => False) rfl rfl HO4.out (Kd.C_below H1.out HB4.out) (fun _ _ h => kFi_M h) (fun _ hk => hk.elim) (fun _ _ => trivial) HB4.out HB4.out.size (by have := HLB.out; omega) ?_; intro v5 w5 ho hb hg hat; have HB5 := Aside0.mk hb; rw [← HLM.out] at ho; have HO5 := Aside0.mk (Kd.R_reads ho); clear ho hb hg hat; obtain ⟨KA, kc, rfl, hkc, hkr⟩ := HO5.out; have HKR := Aside0.mk hkr; clear hkr)
          | (go_at_call 9; refine (kept_told KA kc lm true HBI.out _ HKR.out).mono ?_; rintro e w6 ⟨rfl, hb⟩; have HB6 := Aside0.mk (HB5.out.trans (Below.mono hb HB5.out.size)); clear hb))
            go_ret
            exact ⟨rfl, HB6.out⟩
          · have hr6b : decide ((60 : Int) < (r.length : Int)) = false := decide_eq_false hr6
            have HR6 := Aside0.mk (show r.length ≤ 60 by omega)
            clear hr6
            go_upto_region 5 with (first
          | ((with_reducible refine gate_dst (N := 23) rfl ?_); refine Kd.R_lit kFi (w0 := w) w.heap.size 62 rfl (N := 23) rfl (xs := []) (inner := []) (ok := fun _ => True) (okp := fun _ => False) ?hr (Reps.none _ _) (fun _ hk => hk.elim) trivial ?hb ?hs (by simp) ?_; (case hr => first | (go_simp; done) | (go_simp; rfl)); (case hb => exact HB2.out); (case hs => exact HB2.out.size); intro v3 w3 ho hb hg hat; have HO3 := Aside0.mk ho; have HB3 := Aside0.mk hb; clear ho hb hg hat)
          | ((with_reducible refine gate_dst (N := 25) rfl ?_); refine Kd.R_append_rows kFi (Rr := kFi.K w3) (w0 := w) w.heap.size rfl (.tmp 23) (.tmp 24) 22 62 (.agg #[.string ⟨#[]⟩, .int .u16 0, .int .u16 0, .int .u8 0, .bool false]) 24 rfl Tryz.underlying22 info_fi rfl (by decide) (by omega) v3 [] l A0 l.length c0 (fun _ => True) (fun _ => False) rfl rfl HO3.out (Kd.C_below H0.out HB3.out) (fun _ _ h => kFi_M h) (fun _ hk => hk.elim) (fun _ _ => trivial) HB3.out HB3.out.size (by have := HLA.out; omega) ?_; intro v4 w4 ho hb hg hat; have HO4 := Aside0.mk ho; have HB4 := Aside0.mk hb; clear ho hb hg hat)
          | ((with_reducible refine gate_dst (N := 27) rfl ?_); refine Kd.R_append_rows kFi (Rr := kFi.K w4) (w0 := w) w.heap.size rfl (.tmp 25) (.tmp 26) 22 62 (.agg #[.string ⟨#[]⟩, .int .u16 0, .int .u16 0, .int .u8 0, .bool false]) 24 rfl Tryz.underlying22 info_fi rfl (by decide) (by omega) v4 ([] ++ l) more A1 more.length c1 (fun _ => True) (fun _ => False) rfl rfl HO4.out (Kd.C_below H1.out HB4.out) (fun _ _ h => kFi_M h) (fun _ hk => hk.elim) (fun _ _ => trivial) HB4.out HB4.out.size (by have := HLB.out; omega) ?_; intro v5 w5 ho hb hg hat; have HB5 := Aside0.mk hb; rw [← HLM.out] at ho; have HO5 := Aside0.mk (Kd.R_reads ho); clear ho hb hg hat; obtain ⟨KA, kc, rfl, hkc, hkr⟩ := HO5.out; have HKR := Aside0.mk hkr; clear hkr)
          | (go_at_call 9; refine (kept_told KA kc lm true HBI.out _ HKR.out).mono ?_; rintro e w6 ⟨rfl, hb⟩; have HB6 := Aside0.mk (HB5.out.trans (Below.mono hb HB5.out.size)); clear hb))
            clear hr6b HO3 HO4 HB3 HB4 HKR HO5 HB5 HBI
            obtain ⟨ls, hls⟩ : ∃ ls, ls = l.map stF := ⟨_, rfl⟩
            obtain ⟨ms, hms⟩ : ∃ ms, ms = more.map stF := ⟨_, rfl⟩
            obtain ⟨rs, hrs⟩ : ∃ rs, rs = r.map irF := ⟨_, rfl⟩
            obtain ⟨s2, hs2⟩ : ∃ s2, s2 = (ls ++ [kEnd]) ++ ms := ⟨_, rfl⟩
            obtain ⟨s3, hs3⟩ : ∃ s3, s3 = s2 ++ [kLast 3 r] := ⟨_, rfl⟩
            have HS3E := Aside0.mk (show s3 = finSteps l more r by rw [hs3, hs2, hls, hms]; exact fin_eq l more r)
            have HKM := Aside0.mk (show KeptP (l ++ more) from by have h := HKP.out; rw [HLM.out] at h; simpa using h)
            have HN := Aside0.mk (show l.length + more.length ≤ 60 from by have := HKM.out.1; simpa using this)
            have HPL := Aside0.mk (show laws_pushes.f (l.length + 1) l = some ls by rw [hls]; exact pushes_f l (by have := HN.out; omega))
            have HPM := Aside0.mk (show laws_pushes.f (more.length + 1) more = some ms by rw [hms]; exact pushes_f more (by have := HN.out; omega))
            have HRL := Aside0.mk (show laws_rules.f (r.length + 1) r = some rs by rw [hrs]; exact lrules_f r (by have := HR6.out; omega))
            have HLL := Aside0.mk (show ls.length ≤ 60 by rw [hls, List.length_map]; have := HN.out; omega)
            have HL1 := Aside0.mk (show (ls ++ [kEnd]).length + ms.length ≤ 61 by rw [hls, hms]; simp; have := HN.out; omega)
            have HL2 := Aside0.mk (show s2.length ≤ 61 by rw [hs2, hls, hms]; simp; have := HN.out; omega)
            have HRS := Aside0.mk (show (kLast 3 r).f6 = rs by rw [hrs]; rfl)
            have HS2 := Aside0.mk hs2
            have HS3 := Aside0.mk hs3
            have HMM := Aside0.mk hms
            clear hls hms hrs hs2 hs3
            go_upto_region 6 with (first
              | (go_at_call 10; refine (laws_pushes.calls (l.length + 1) A0 c0 l ls _ (Kd.C_below H0.out HB6.out) L0.out HPL.out).mono ?_; rintro e w7 ⟨v7, rfl, hs, hb⟩; have HO7 := Aside0.mk (Kd.S_R hs); have HB7 := Aside0.mk (HB6.out.trans (Below.mono hb HB6.out.size)); clear hs hb)
              | ((with_reducible refine gate_dst (N := 39) rfl ?_); refine Kd.R_append k31 (w0 := w) w.heap.size rfl (.tmp 36) (.tmp 38) 25 31 _ 104 rfl Tryz.underlying25 info31 rfl (by decide) (by omega) v7 ls kEnd [.int .i64 1, .string ⟨#[]⟩, .int .u16 0, .int .u16 0, .int .u8 0, .bool false, .slice none 0 0, .int .i64 0, .int .i64 0, .int .i64 0, .slice none 0 0] (fun _ => True) (fun _ => False) rfl rfl (k31_mkM _ _ _ kEnd (Kd.R_nil _ _ _ _ _) (Kd.R_nil _ _ _ _ _)) (fun _ hk => hk.elim) (fun _ _ => trivial) (Kd.R_lower HO7.out HB6.out.size) HB7.out HB7.out.size (by have := HLL.out; omega) ?_; intro v8 w8 ho hb hg hat; have HO8 := Aside0.mk ho; have HB8 := Aside0.mk hb; clear ho hb hg hat))
            have HLT8 := Aside0.mk (Kd.R_lt HO8.out)
            go_upto_region 7 with (first
              | (go_at_call 10; refine (laws_pushes.calls (more.length + 1) A1 c1 more ms _ (Kd.C_below H1.out HB8.out) L1.out HPM.out).mono ?_; rintro e w9 ⟨v9, rfl, hs, hb⟩; obtain ⟨MA, mc, rfl, hmc, hmr⟩ := R_rows (Kd.S_R hs); have HMR := Aside0.mk hmr; have HO9 := Aside0.mk (Kd.R_below HO8.out hb); have HB9 := Aside0.mk (HB8.out.trans (Below.mono hb HB8.out.size)); clear hs hb hmr hmc)
              | ((with_reducible refine gate_dst (N := 43) rfl ?_); refine Kd.R_append_rows k31 (Rr := k31.M w9 w8.heap.size (fun k => True ∧ some k ≠ (Value.slice MA ms.length mc).ownBlock)) (w0 := w) w.heap.size rfl (.tmp 40) (.tmp 42) 25 31 _ 104 rfl Tryz.underlying25 info31 rfl (by decide) (by omega) v8 (ls ++ [kEnd]) ms MA ms.length mc (fun _ => True) (fun k => w8.heap.size ≤ k) rfl rfl HO9.out HMR.out (fun x cs h => k31.M_lower HB8.out.size (k31.M_mono (fun k hk => hk.2.1) (k31.M_bound h))) (fun k hk => ⟨trivial, fun e => by have := HLT8.out k e.symm; omega⟩) (fun _ _ => trivial) HB9.out HB9.out.size (by have := HL1.out; omega) ?_; intro v10 w10 ho hb hg hat; rw [← HS2.out] at ho; have HO10 := Aside0.mk ho; have HB10 := Aside0.mk hb; have HLT10 := Aside0.mk (Kd.R_lt ho); clear ho hb hg hat)
              | (go_at_call 11; refine (laws_rules.calls (r.length + 1) A2 c2 r rs _ (Kd.C_below H2.out HB10.out) L2.out HRL.out).mono ?_; rintro e w11 ⟨v11, rfl, hs, hb⟩; have HRR := Aside0.mk (Kd.R_mono (Kd.R_bound hs) (fun k hk => hk.2.1)); obtain ⟨RA, rc, rfl⟩ := Kd.R_slice hs; have HO11 := Aside0.mk (Kd.R_below HO10.out hb); have HB11 := Aside0.mk (HB10.out.trans (Below.mono hb HB10.out.size)); clear hs hb)
              | ((with_reducible refine gate_dst (N := 48) rfl ?_); refine Kd.R_append k31 (w0 := w) w.heap.size rfl (.tmp 43) (.tmp 47) 25 31 _ 104 rfl Tryz.underlying25 info31 rfl (by decide) (by omega) v10 s2 (kLast 3 r) [.int .i64 3, .string ⟨#[]⟩, .int .u16 0, .int .u16 0, .int .u8 0, .bool false, .slice RA rs.length rc, .int .i64 0, .int .i64 0, .int .i64 0, .slice none 0 0] (fun _ => True) (fun k => w10.heap.size ≤ k) rfl rfl (k31_mkM _ _ _ (kLast 3 r) (by rw [HRS.out]; exact Kd.R_lower HRR.out HB10.out.size) (Kd.R_nil _ _ _ _ _)) (fun k hk => ⟨trivial, fun e => by have := HLT10.out k e.symm; omega⟩) (fun _ _ => trivial) HO11.out HB11.out HB11.out.size (by have := HL2.out; omega) ?_; intro v12 w12 ho hb hg hat; rw [← HS3.out] at ho; have HO12 := Aside0.mk ho; have HB12 := Aside0.mk hb; clear ho hb hg hat))
            clear HO7 HO8 HO9 HO10 HO11 HB7 HB8 HB9 HB10 HB11 HMR HRR HLT8 HLT10
            obtain ⟨SA, sc, rfl, hsl, hsr⟩ := Kd.R_reads HO12.out
            have HSR := Aside0.mk hsr
            have HFT := Aside0.mk (show ∀ i, i < s3.length → Fit (runTo s3 i) (s3.getD i z31) from by rw [HS3E.out]; exact fun i hi => fin_fit HKM.out HR6.out i hi)
            have HL3 := Aside0.mk (show s3.length < 1000 by rw [HS3.out]; simp; have := HL2.out; omega)
            have HL0 := Aside0.mk (show 0 < s3.length by rw [HS3.out]; simp)
            clear hsl hsr
            go_upto_region 8 with (go_at_call 12; refine (cache_calls SA sc s3 w12 HSR.out HL3.out HFT.out).mono ?_; rintro e w13 ⟨v13, rfl, ht, hb⟩; have HT13 := Aside0.mk ht; have HB13 := Aside0.mk (HB12.out.trans (Below.mono hb HB12.out.size)); clear ht hb)
            obtain ⟨g13, p13, rfl, hg13, _, _⟩ := Kd.R_form HT13.out (by rw [tolds_length]; exact HL0.out)
            rw [tolds_length] at HT13 ⊢
            obtain ⟨TX, hTX⟩ : ∃ TX, TX = strOfNums (mergeTo (l.map itF) (r.map rlF) r.length) := ⟨_, rfl⟩
            obtain ⟨n1, hn1⟩ : ∃ n1, n1 = l.length + (more.length + 1) := ⟨_, rfl⟩
            have HN1 := Aside0.mk (show s3.length = n1 + 1 by rw [HS3E.out, fin_length, hn1]; omega)
            have HTX := Aside0.mk (show spec_FlightMerge.f (r.length + r.length * (l.length + 2) + 1) l r = some TX by rw [hTX]; exact fmerge_f l r (kept_left HKM.out) HR6.out)
            obtain ⟨pv13, hy13, _, _⟩ := told_cells HT13.out n1 ⟨false, 0, TX, []⟩ (by rw [HS3E.out, hn1, hTX]; exact fin_text l more r)
            have HY13 := Aside0.mk hy13
            clear hTX hn1 hy13 hg13
            go_upto_region 9 with (first
              | ((with_reducible refine gate_dst (N := 54) rfl ?_); refine Kd.R_lit k36 (w0 := w) w.heap.size 36 rfl (N := 54) rfl (xs := [⟨1, 0, true, false⟩]) (inner := [.int .u8 1, .int .u16 0, .bool true, .bool false]) (ok := fun _ => True) (okp := fun _ => False) ?hr (Reps.snoc (Reps.none _ _) (k36_mkM w13 w.heap.size _ (⟨1, 0, true, false⟩ : Ir)) rfl) (fun _ hk => hk.elim) trivial ?hb ?hs (by simp) ?_; (case hr => first | (go_simp; done) | (go_simp; rfl)); (case hb => exact HB13.out); (case hs => exact HB13.out.size); intro v14 w14 ho hb hg hat; obtain ⟨qA, qm, qc, rfl⟩ : ∃ A m c, v14 = Value.slice A m c := (by obtain ⟨A, c, e⟩ := Kd.R_slice ho; exact ⟨A, _, c, e⟩); have HO14 := Aside0.mk ho; have HB14 := Aside0.mk hb; have HY14 := Aside0.mk (grown_cell hg HY13.out); clear ho hb hg hat)
              | (go_at_call 12; have ho15 := x_lit HB14.out.size HO14.out; refine (cache_calls _ 3 (finSteps [xItem] [] [xRule]) _ (Kd.R_reads' ho15).2.2 (by decide) (fun i hi => fin_fit x_kept (by decide) i hi)).mono ?_; rintro e w16 ⟨v16, rfl, ht, hb⟩; have HB15 := Aside0.mk (below_alloc HB14.out (.cells #[.int .i64 0, .string ⟨#[120]⟩, .int .u16 0, .int .u16 0, .int .u8 1, .bool true, .slice none 0 0, .int .i64 0, .int .i64 0, .int .i64 0, .slice none 0 0, .int .i64 1, .string ⟨#[]⟩, .int .u16 0, .int .u16 0, .int .u8 0, .bool false, .slice none 0 0, .int .i64 0, .int .i64 0, .int .i64 0, .slice none 0 0, .int .i64 3, .string ⟨#[]⟩, .int .u16 0, .int .u16 0, .int .u8 0, .bool false, .slice qA qm qc, .int .i64 0, .int .i64 0, .int .i64 0, .slice none 0 0] 31)); have HT16 := Aside0.mk ht; have HB16 := Aside0.mk (HB15.out.trans (Below.mono hb HB15.out.size)); have HY16 := Aside0.mk ((hb.cell (World.block_lt_of_cell? _ _ (grown_cell (World.grownBy_alloc _ _ none) HY14.out))).trans (grown_cell (World.grownBy_alloc _ _ none) HY14.out)); clear ht hb ho15))
            have hl16 : (tolds (finSteps [xItem] [] [xRule]) (finSteps [xItem] [] [xRule]).length).length = 3 := tolds_length _ _
            obtain ⟨g16, p16, rfl, hg16, _, _⟩ := Kd.R_form HT16.out (by rw [hl16]; decide)
            rw [hl16] at HT16 ⊢
            obtain ⟨pv16, hy16, _, _⟩ := told_cells HT16.out 2 ⟨false, 0, ⟨#[120]⟩, []⟩ (by have h := fin_text [xItem] [] [xRule]; rw [show ([xRule] : List Fr).length = 1 from rfl, x_text] at h; exact h)
            have hsub : IntKind.i64.wrap ((s3.length : Int) - 1) = (n1 : Int) := by have := HN1.out; rw [IntKind.wrap_i64]; have := HL3.out; omega
            have m0 := eq_true (show (0 : Int) ≤ (n1 : Int) by omega)
            have m1 := eq_true (show (n1 : Int) < (s3.length : Int) by have := HN1.out; omega)
            refine wp_region_noPanic ?_
            refine start_ (n := 31) (S := fun w' => w'.cell? ⟨g13, n1 * 5 + 2, none⟩ = some (.string TX) ∧ w'.cell? ⟨g16, 12, none⟩ = some (.string ⟨#[120]⟩)) (ds := []) #[false, false, false, false, false, false, false, false, false, false, false, false, false, false, false, false, false, false, false, false, false, false, false, false, false, false, false, false, false, false, false] (by kernel_rfl) rfl rfl ⟨HY16.out, hy16⟩ (fun hHeld => ?_)
            have HB17 := Aside0.mk (below_drew HB16.out)
            have HY17 := Aside0.mk hHeld
            clear hy16 HB16 HY16 HT16
            generalize w16.drew = w17 at *
            refine pure_ (i := 0) (N := (some 58)) (v := ?_) (a' := ?_) #[true, false, false, false, false, false, false, false, false, false, false, false, false, false, false, false, false, false, false, false, false, false, false, false, false, false, false, false, false, false, false] rfl rfl (by kernel_rfl) (fun _ _ _ h => h.elim) (Or.inl ⟨by rfl, ?_⟩) ?_ ?_
            rotate_left
            · intro w'
              go_simp
              with_reducible rfl
            rotate_left
            · simp only [Act.put, List.setIfInBounds_toArray, List.set_cons_zero, List.set_cons_succ, i64_w, i32_w]
              rfl
            refine pure_ (i := 1) (N := (some 59)) (v := ?_) (a' := ?_) #[true, true, false, false, false, false, false, false, false, false, false, false, false, false, false, false, false, false, false, false, false, false, false, false, false, false, false, false, false, false, false] rfl rfl (by kernel_rfl) (fun _ _ _ h => h.elim) (Or.inl ⟨by rfl, ?_⟩) ?_ ?_
            rotate_left
            · intro w'
              go_simp
              with_reducible rfl
            rotate_left
            · simp only [Act.put, List.setIfInBounds_toArray, List.set_cons_zero, List.set_cons_succ, i64_w, i32_w]
              rfl
            refine pure_ (i := 2) (N := (some 60)) (v := ?_) (a' := ?_) #[true, true, true, false, false, false, false, false, false, false, false, false, false, false, false, false, false, false, false, false, false, false, false, false, false, false, false, false, false, false, false] rfl rfl (by kernel_rfl) (fun _ _ _ h => h.elim) (Or.inl ⟨by rfl, ?_⟩) ?_ ?_
            rotate_left
            · intro w'
              go_simp
              with_reducible rfl
            rotate_left
            · simp only [Act.put, List.setIfInBounds_toArray, List.set_cons_zero, List.set_cons_succ, i64_w, i32_w]
              rfl
            refine pure_ (i := 3) (N := (some 61)) (v := ?_) (a' := ?_) #[true, true, true, true, false, false, false, false, false, false, false, false, false, false, false, false, false, false, false, false, false, false, false, false, false, false, false, false, false, false, false] rfl rfl (by kernel_rfl) (fun _ _ _ h => h.elim) (Or.inl ⟨by rfl, ?_⟩) ?_ ?_
            rotate_left
            · intro w'
              go_simp
              with_reducible rfl
            rotate_left
            · simp only [Act.put, List.setIfInBounds_toArray, List.set_cons_zero, List.set_cons_succ, i64_w, i32_w]
              rfl
            refine pure_ (i := 4) (N := (some 62)) (v := ?_) (a' := ?_) #[true, true, true, true, true, false, false, false, false, false, false, false, false, false, false, false, false, false, false, false, false, false, false, false, false, false, false, false, false, false, false] rfl rfl (by kernel_rfl) (fun _ _ _ h => h.elim) (Or.inl ⟨by rfl, ?_⟩) ?_ ?_
            rotate_left
            · intro w'
              go_simp
              with_reducible rfl
            rotate_left
            · simp only [Act.put, List.setIfInBounds_toArray, List.set_cons_zero, List.set_cons_succ, i64_w, i32_w]
              rfl
            refine pure_ (i := 5) (N := (some 63)) (v := ?_) (a' := ?_) #[true, true, true, true, true, true, false, false, false, false, false, false, false, false, false, false, false, false, false, false, false, false, false, false, false, false, false, false, false, false, false] rfl rfl (by kernel_rfl) (fun _ _ _ h => h.elim) (Or.inl ⟨by rfl, ?_⟩) ?_ ?_
            rotate_left
            · intro w'
              go_simp
              with_reducible rfl
            rotate_left
            · simp only [Act.put, List.setIfInBounds_toArray, List.set_cons_zero, List.set_cons_succ, i64_w, i32_w]
              rfl
            refine pure_ (i := 6) (N := (some 64)) (v := ?_) (a' := ?_) #[true, true, true, true, true, true, true, false, false, false, false, false, false, false, false, false, false, false, false, false, false, false, false, false, false, false, false, false, false, false, false] rfl rfl (by kernel_rfl) (fun _ _ _ h => h.elim) (Or.inl ⟨by rfl, ?_⟩) ?_ ?_
            rotate_left
            · intro w'
              go_simp
              with_reducible rfl
            rotate_left
            · simp only [Act.put, List.setIfInBounds_toArray, List.set_cons_zero, List.set_cons_succ, i64_w, i32_w]
              rfl
            refine pure_ (i := 7) (N := (some 65)) (v := ?_) (a' := ?_) #[true, true, true, true, true, true, true, true, false, false, false, false, false, false, false, false, false, false, false, false, false, false, false, false, false, false, false, false, false, false, false] rfl rfl (by kernel_rfl) (fun _ _ _ h => h.elim) (Or.inl ⟨by rfl, ?_⟩) ?_ ?_
            rotate_left
            · intro w'
              go_simp
              with_reducible rfl
            rotate_left
            · simp only [Act.put, List.setIfInBounds_toArray, List.set_cons_zero, List.set_cons_succ, i64_w, i32_w]
              rfl
            refine pure_ (i := 8) (N := (some 66)) (v := ?_) (a' := ?_) #[true, true, true, true, true, true, true, true, true, false, false, false, false, false, false, false, false, false, false, false, false, false, false, false, false, false, false, false, false, false, false] rfl rfl (by kernel_rfl) (fun _ _ _ h => h.elim) (Or.inl ⟨by rfl, ?_⟩) ?_ ?_
            rotate_left
            · intro w'
              go_simp
              with_reducible rfl
            rotate_left
            · simp only [Act.put, List.setIfInBounds_toArray, List.set_cons_zero, List.set_cons_succ, i64_w, i32_w]
              rfl
            refine pure_ (i := 9) (N := (some 67)) (v := ?_) (a' := ?_) #[true, true, true, true, true, true, true, true, true, true, false, false, false, false, false, false, false, false, false, false, false, false, false, false, false, false, false, false, false, false, false] rfl rfl (by kernel_rfl) (fun _ _ _ h => h.elim) (Or.inl ⟨by rfl, ?_⟩) ?_ ?_
            rotate_left
            · intro w'
              go_simp
              with_reducible rfl
            rotate_left
            · simp only [Act.put, List.setIfInBounds_toArray, List.set_cons_zero, List.set_cons_succ, i64_w, i32_w]
              rfl
            refine pure_ (i := 10) (N := (some 68)) (v := ?_) (a' := ?_) #[true, true, true, true, true, true, true, true, true, true, true, false, false, false, false, false, false, false, false, false, false, false, false, false, false, false, false, false, false, false, false] rfl rfl (by kernel_rfl) (fun _ _ _ h => h.elim) (Or.inl ⟨by rfl, ?_⟩) ?_ ?_
            rotate_left
            · intro w'
              go_simp
              with_reducible rfl
            rotate_left
            · simp only [Act.put, List.setIfInBounds_toArray, List.set_cons_zero, List.set_cons_succ, i64_w, i32_w]
              rfl
            refine pure_ (i := 11) (N := (some 69)) (v := ?_) (a' := ?_) #[true, true, true, true, true, true, true, true, true, true, true, true, false, false, false, false, false, false, false, false, false, false, false, false, false, false, false, false, false, false, false] rfl rfl (by kernel_rfl) (fun _ _ _ h => h.elim) (Or.inl ⟨by rfl, ?_⟩) ?_ ?_
            rotate_left
            · intro w'
              go_simp
              with_reducible rfl
            rotate_left
            · simp only [Act.put, List.setIfInBounds_toArray, List.set_cons_zero, List.set_cons_succ, i64_w, i32_w]
              rfl
            refine take_ (i := 12) (N := (some 70)) (v := ?_) (a' := ?_) #[true, true, true, true, true, true, true, true, true, true, true, true, true, false, false, false, false, false, false, false, false, false, false, false, false, false, false, false, false, false, false] rfl rfl (by kernel_rfl) (fun _ _ _ h => h.elim) (Or.inl ⟨by rfl, ?_⟩) hHeld ?_ ?_
            rotate_left
            · intro w' s0; obtain ⟨s1, s2⟩ := s0
              go_simp
              with_reducible rfl
            rotate_left
            · simp only [Act.put, List.setIfInBounds_toArray, List.set_cons_zero, List.set_cons_succ, i64_w, i32_w]
              rfl
            refine pure_ (i := 13) (N := (some 71)) (v := ?_) (a' := ?_) #[true, true, true, true, true, true, true, true, true, true, true, true, true, true, false, false, false, false, false, false, false, false, false, false, false, false, false, false, false, false, false] rfl rfl (by kernel_rfl) (fun _ _ _ h => h.elim) (Or.inl ⟨by rfl, ?_⟩) ?_ ?_
            rotate_left
            · intro w'
              go_simp
              with_reducible rfl
            rotate_left
            · simp only [Act.put, List.setIfInBounds_toArray, List.set_cons_zero, List.set_cons_succ, i64_w, i32_w]
              rfl
            refine pure_ (i := 14) (N := (some 72)) (v := ?_) (a' := ?_) #[true, true, true, true, true, true, true, true, true, true, true, true, true, true, true, false, false, false, false, false, false, false, false, false, false, false, false, false, false, false, false] rfl rfl (by kernel_rfl) (fun _ _ _ h => h.elim) (Or.inl ⟨by rfl, ?_⟩) ?_ ?_
            rotate_left
            · intro w'
              go_simp
              with_reducible rfl
            rotate_left
            · simp only [Act.put, List.setIfInBounds_toArray, List.set_cons_zero, List.set_cons_succ, i64_w, i32_w]
              rfl
            refine one_ (i := 15) (N := (some 73)) #[true, true, true, true, true, true, true, true, true, true, true, true, true, true, true, true, false, false, false, false, false, false, false, false, false, false, false, false, false, false, false] rfl rfl (by kernel_rfl) (by decide) (fun K hK => ?_)
            refine goes_ Tryz.func13 (by kernel_rfl) rfl #[.slice A0 l.length c0, .slice A2 r.length c2] (by rfl) rfl rfl (by simp only [List.map_toArray, List.map_cons, List.map_nil]; rfl) ?_
            refine (spec_FlightMerge.calls _ A0 c0 l A2 c2 r TX _ (Kd.C_below H0.out HB17.out) L0.out (Kd.C_below H2.out HB17.out) L2.out HTX.out).mono ?_
            rintro e w18 ⟨rfl, hb⟩
            refine ⟨_, rfl, ?_⟩
            have HB18 := Aside0.mk (HB17.out.trans (Below.mono hb HB17.out.size))
            have HY18 := Aside0.mk (And.intro ((hb.cell (World.block_lt_of_cell? _ _ HY17.out.1)).trans HY17.out.1) ((hb.cell (World.block_lt_of_cell? _ _ HY17.out.2)).trans HY17.out.2))
            refine hK.out _ _ HY18.out (fun hHeld => ?_)
            clear hK K hb
            refine norm_ (a' := ?_) ?_ ?_
            rotate_left
            · simp only [Act.put, List.setIfInBounds_toArray, List.set_cons_zero, List.set_cons_succ]
              rfl
            refine pure_ (i := 16) (N := (some 74)) (v := ?_) (a' := ?_) #[true, true, true, true, true, true, true, true, true, true, true, true, true, true, true, true, true, false, false, false, false, false, false, false, false, false, false, false, false, false, false] rfl rfl (by kernel_rfl) (fun _ _ _ h => h.elim) (Or.inl ⟨by rfl, ?_⟩) ?_ ?_
            rotate_left
            · intro w'
              go_simp
              with_reducible rfl
            rotate_left
            · simp only [Act.put, List.setIfInBounds_toArray, List.set_cons_zero, List.set_cons_succ, i64_w, i32_w]
              rfl
            refine pure_ (i := 17) (N := (some 75)) (v := ?_) (a' := ?_) #[true, true, true, true, true, true, true, true, true, true, true, true, true, true, true, true, true, true, false, false, false, false, false, false, false, false, false, false, false, false, false] rfl rfl (by kernel_rfl) (fun _ _ _ h => h.elim) (Or.inl ⟨by rfl, ?_⟩) ?_ ?_
            rotate_left
            · intro w'
              go_simp
              with_reducible rfl
            rotate_left
            · simp only [Act.put, List.setIfInBounds_toArray, List.set_cons_zero, List.set_cons_succ, i64_w, i32_w]
              rfl
            refine pure_ (i := 18) (N := (some 76)) (v := ?_) (a' := ?_) #[true, true, true, true, true, true, true, true, true, true, true, true, true, true, true, true, true, true, true, false, false, false, false, false, false, false, false, false, false, false, false] rfl rfl (by kernel_rfl) (fun _ _ _ h => h.elim) (Or.inl ⟨by rfl, ?_⟩) ?_ ?_
            rotate_left
            · intro w'
              go_simp
              with_reducible rfl
            rotate_left
            · simp only [Act.put, List.setIfInBounds_toArray, List.set_cons_zero, List.set_cons_succ, i64_w, i32_w]
              rfl
            refine pure_ (i := 19) (N := (some 77)) (v := ?_) (a' := ?_) #[true, true, true, true, true, true, true, true, true, true, true, true, true, true, true, true, true, true, true, true, false, false, false, false, false, false, false, false, false, false, false] rfl rfl (by kernel_rfl) (fun _ _ _ h => h.elim) (Or.inl ⟨by rfl, ?_⟩) ?_ ?_
            rotate_left
            · intro w'
              go_simp
              with_reducible rfl
            rotate_left
            · simp only [Act.put, List.setIfInBounds_toArray, List.set_cons_zero, List.set_cons_succ, i64_w, i32_w]
              rfl
            refine pure_ (i := 20) (N := (some 78)) (v := ?_) (a' := ?_) #[true, true, true, true, true, true, true, true, true, true, true, true, true, true, true, true, true, true, true, true, true, false, false, false, false, false, false, false, false, false, false] rfl rfl (by kernel_rfl) (fun _ _ _ h => h.elim) (Or.inl ⟨by rfl, ?_⟩) ?_ ?_
            rotate_left
            · intro w'
              go_simp
              with_reducible rfl
            rotate_left
            · simp only [Act.put, List.setIfInBounds_toArray, List.set_cons_zero, List.set_cons_succ, i64_w, i32_w]
              rfl
            refine pure_ (i := 21) (N := (some 79)) (v := ?_) (a' := ?_) #[true, true, true, true, true, true, true, true, true, true, true, true, true, true, true, true, true, true, true, true, true, true, false, false, false, false, false, false, false, false, false] rfl rfl (by kernel_rfl) (fun _ _ _ h => h.elim) (Or.inl ⟨by rfl, ?_⟩) ?_ ?_
            rotate_left
            · intro w'
              go_simp
              with_reducible rfl
            rotate_left
            · simp only [Act.put, List.setIfInBounds_toArray, List.set_cons_zero, List.set_cons_succ, i64_w, i32_w]
              rfl
            refine pure_ (i := 22) (N := (some 80)) (v := ?_) (a' := ?_) #[true, true, true, true, true, true, true, true, true, true, true, true, true, true, true, true, true, true, true, true, true, true, true, false, false, false, false, false, false, false, false] rfl rfl (by kernel_rfl) (fun _ _ _ h => h.elim) (Or.inl ⟨by rfl, ?_⟩) ?_ ?_
            rotate_left
            · intro w'
              go_simp
              with_reducible rfl
            rotate_left
            · simp only [Act.put, List.setIfInBounds_toArray, List.set_cons_zero, List.set_cons_succ, i64_w, i32_w]
              rfl
            refine pure_ (i := 23) (N := (some 81)) (v := ?_) (a' := ?_) #[true, true, true, true, true, true, true, true, true, true, true, true, true, true, true, true, true, true, true, true, true, true, true, true, false, false, false, false, false, false, false] rfl rfl (by kernel_rfl) (fun _ _ _ h => h.elim) (Or.inl ⟨by rfl, ?_⟩) ?_ ?_
            rotate_left
            · intro w'
              go_simp
              with_reducible rfl
            rotate_left
            · simp only [Act.put, List.setIfInBounds_toArray, List.set_cons_zero, List.set_cons_succ, i64_w, i32_w]
              rfl
            refine pure_ (i := 24) (N := (some 82)) (v := ?_) (a' := ?_) #[true, true, true, true, true, true, true, true, true, true, true, true, true, true, true, true, true, true, true, true, true, true, true, true, true, false, false, false, false, false, false] rfl rfl (by kernel_rfl) (fun _ _ _ h => h.elim) (Or.inl ⟨by rfl, ?_⟩) ?_ ?_
            rotate_left
            · intro w'
              go_simp
              with_reducible rfl
            rotate_left
            · simp only [Act.put, List.setIfInBounds_toArray, List.set_cons_zero, List.set_cons_succ, i64_w, i32_w]
              rfl
            refine pure_ (i := 25) (N := (some 83)) (v := ?_) (a' := ?_) #[true, true, true, true, true, true, true, true, true, true, true, true, true, true, true, true, true, true, true, true, true, true, true, true, true, true, false, false, false, false, false] rfl rfl (by kernel_rfl) (fun _ _ _ h => h.elim) (Or.inl ⟨by rfl, ?_⟩) ?_ ?_
            rotate_left
            · intro w'
              go_simp
              with_reducible rfl
            rotate_left
            · simp only [Act.put, List.setIfInBounds_toArray, List.set_cons_zero, List.set_cons_succ, i64_w, i32_w]
              rfl
            refine pure_ (i := 26) (N := (some 84)) (v := ?_) (a' := ?_) #[true, true, true, true, true, true, true, true, true, true, true, true, true, true, true, true, true, true, true, true, true, true, true, true, true, true, true, false, false, false, false] rfl rfl (by kernel_rfl) (fun _ _ _ h => h.elim) (Or.inl ⟨by rfl, ?_⟩) ?_ ?_
            rotate_left
            · intro w'
              go_simp
              with_reducible rfl
            rotate_left
            · simp only [Act.put, List.setIfInBounds_toArray, List.set_cons_zero, List.set_cons_succ, i64_w, i32_w]
              rfl
            refine take_ (i := 27) (N := (some 85)) (v := ?_) (a' := ?_) #[true, true, true, true, true, true, true, true, true, true, true, true, true, true, true, true, true, true, true, true, true, true, true, true, true, true, true, true, false, false, false] rfl rfl (by kernel_rfl) (fun _ _ _ h => h.elim) (Or.inl ⟨by rfl, ?_⟩) hHeld ?_ ?_
            rotate_left
            · intro w' s0; obtain ⟨s1, s2⟩ := s0
              go_simp
              with_reducible rfl
            rotate_left
            · simp only [Act.put, List.setIfInBounds_toArray, List.set_cons_zero, List.set_cons_succ, i64_w, i32_w]
              rfl
            refine pure_ (i := 28) (N := (some 86)) (v := ?_) (a' := ?_) #[true, true, true, true, true, true, true, true, true, true, true, true, true, true, true, true, true, true, true, true, true, true, true, true, true, true, true, true, true, false, false] rfl rfl (by kernel_rfl) (fun _ _ _ h => h.elim) (Or.inl ⟨by rfl, ?_⟩) ?_ ?_
            rotate_left
            · intro w'
              go_simp
              with_reducible rfl
            rotate_left
            · simp only [Act.put, List.setIfInBounds_toArray, List.set_cons_zero, List.set_cons_succ, i64_w, i32_w]
              rfl
            refine pure_ (i := 29) (N := (some 87)) (v := ?_) (a' := ?_) #[true, true, true, true, true, true, true, true, true, true, true, true, true, true, true, true, true, true, true, true, true, true, true, true, true, true, true, true, true, true, false] rfl rfl (by kernel_rfl) (fun _ _ _ h => h.elim) (Or.inl ⟨by rfl, ?_⟩) ?_ ?_
            rotate_left
            · intro w'
              go_simp
              with_reducible rfl
            rotate_left
            · simp only [Act.put, List.setIfInBounds_toArray, List.set_cons_zero, List.set_cons_succ, i64_w, i32_w]
              rfl
            refine pure_ (i := 30) (N := (some 6)) (v := ?_) (a' := ?_) #[true, true, true, true, true, true, true, true, true, true, true, true, true, true, true, true, true, true, true, true, true, true, true, true, true, true, true, true, true, true, true] rfl rfl (by kernel_rfl) (fun _ _ _ h => h.elim) (Or.inl ⟨by rfl, ?_⟩) ?_ ?_
            rotate_left
            · intro w'
              go_simp
              with_reducible rfl
            rotate_left
            · simp only [Act.put, List.setIfInBounds_toArray, List.set_cons_zero, List.set_cons_succ, i64_w, i32_w]
              rfl
            refine done_ (by kernel_rfl) ?_
            refine NoPanic.normal ?_
            go_wp2
            go_ret
            exact ⟨rfl, HB18.out⟩
        · have HBI := Aside0.mk (show false = true ↔ KeptP lm from ⟨fun h => absurd h (by decide), fun h => absurd h hkp⟩)
          clear hkp
          go_wp2_with (first
          | ((with_reducible refine gate_dst (N := 23) rfl ?_); refine Kd.R_lit kFi (w0 := w) w.heap.size 62 rfl (N := 23) rfl (xs := []) (inner := []) (ok := fun _ => True) (okp := fun _ => False) ?hr (Reps.none _ _) (fun _ hk => hk.elim) trivial ?hb ?hs (by simp) ?_; (case hr => first | (go_simp; done) | (go_simp; rfl)); (case hb => exact HB2.out); (case hs => exact HB2.out.size); intro v3 w3 ho hb hg hat; have HO3 := Aside0.mk ho; have HB3 := Aside0.mk hb; clear ho hb hg hat)
          | ((with_reducible refine gate_dst (N := 25) rfl ?_); refine Kd.R_append_rows kFi (Rr := kFi.K w3) (w0 := w) w.heap.size rfl (.tmp 23) (.tmp 24) 22 62 (.agg #[.string ⟨#[]⟩, .int .u16 0, .int .u16 0, .int .u8 0, .bool false]) 24 rfl Tryz.underlying22 info_fi rfl (by decide) (by omega) v3 [] l A0 l.length c0 (fun _ => True) (fun _ => False) rfl rfl HO3.out (Kd.C_below H0.out HB3.out) (fun _ _ h => kFi_M h) (fun _ hk => hk.elim) (fun _ _ => trivial) HB3.out HB3.out.size (by have := HLA.out; omega) ?_; intro v4 w4 ho hb hg hat; have HO4 := Aside0.mk ho; have HB4 := Aside0.mk hb; clear ho hb hg hat)
          | ((with_reducible refine gate_dst (N := 27) rfl ?_); refine Kd.R_append_rows kFi (Rr := kFi.K w4) (w0 := w) w.heap.size rfl (.tmp 25) (.tmp 26) 22 62 (.agg #[.string ⟨#[]⟩, .int .u16 0, .int .u16 0, .int .u8 0, .bool false]) 24 rfl Tryz.underlying22 info_fi rfl (by decide) (by omega) v4 ([] ++ l) more A1 more.length c1 (fun _ => True) (fun _ => False) rfl rfl HO4.out (Kd.C_below H1.out HB4.out) (fun _ _ h => kFi_M h) (fun _ hk => hk.elim) (fun _ _ => trivial) HB4.out HB4.out.size (by have := HLB.out; omega) ?_; intro v5 w5 ho hb hg hat; have HB5 := Aside0.mk hb; rw [← HLM.out] at ho; have HO5 := Aside0.mk (Kd.R_reads ho); clear ho hb hg hat; obtain ⟨KA, kc, rfl, hkc, hkr⟩ := HO5.out; have HKR := Aside0.mk hkr; clear hkr)
          | (go_at_call 9; refine (kept_told KA kc lm false HBI.out _ HKR.out).mono ?_; rintro e w6 ⟨rfl, hb⟩; have HB6 := Aside0.mk (HB5.out.trans (Below.mono hb HB5.out.size)); clear hb))
          go_ret
          exact ⟨rfl, HB6.out⟩
end Go.Proofs.YtmkbebincjppnaaGreatDoor
