/- laws.FnCacheMerge returns true: its walk. -/
import Derived.Test.YtmkbebincjppnaaGreatDoorLp
namespace Go.Proofs.YtmkbebincjppnaaGreatDoor
open Go.RowKit Go.Proofs.YtmkbebincjppnaaGreatDoorW.PrintWords Go.Proofs.YtmkbebincjppnaaGreatDoorW.PrintLast Go.Proofs.YtmkbebincjppnaaGreatDoorW.PrintMore Go.Proofs.YtmkbebincjppnaaGreatDoor.PLib
set_option linter.unusedVariables false
set_option linter.unusedSimpArgs false

/-- The two looks, laid. -/
theorem two_lit {w14 : World} {base : Nat} (hbase : base ≤ w14.heap.size) {qA1 qA2 : Option Addr} {qm1 qc1 qm2 qc2 : Nat} {r : List Fr} {rs : List Ir} (hrs : rs = r.map irF) (h1 : k36.R 36 w14 base (fun _ => True) (.slice qA1 qm1 qc1) rs) (h2 : k36.R 36 w14 base (fun _ => True) (.slice qA2 qm2 qc2) rs) :
    k31.R 31 (w14.alloc (.cells #[.int .i64 3, .string ⟨#[]⟩, .int .u16 0, .int .u16 0, .int .u8 0, .bool false, .slice qA1 qm1 qc1, .int .i64 0, .int .i64 0, .int .i64 0, .slice none 0 0, .int .i64 2, .string ⟨#[]⟩, .int .u16 0, .int .u16 0, .int .u8 0, .bool false, .slice qA2 qm2 qc2, .int .i64 0, .int .i64 0, .int .i64 0, .slice none 0 0] 31)) base (fun _ => True) (.slice (some ⟨w14.heap.size, 0, none⟩) 2 2) [kLast 3 r, kLast 2 r] := by
  subst hrs
  have hrep := Reps.snoc (Reps.snoc (Reps.none (k31.M w14 base (fun _ => True)) 11) (k31_mkM w14 base _ (kLast 3 r) h1 (Kd.R_nil _ _ _ _ _)) rfl) (k31_mkM w14 base _ (kLast 2 r) h2 (Kd.R_nil _ _ _ _ _)) rfl
  refine ⟨fun _ _ => trivial, [.int .i64 3, .string ⟨#[]⟩, .int .u16 0, .int .u16 0, .int .u8 0, .bool false, .slice qA1 qm1 qc1, .int .i64 0, .int .i64 0, .int .i64 0, .slice none 0 0, .int .i64 2, .string ⟨#[]⟩, .int .u16 0, .int .u16 0, .int .u8 0, .bool false, .slice qA2 qm2 qc2, .int .i64 0, .int .i64 0, .int .i64 0, .slice none 0 0], ?_, ?_⟩
  · exact World.ownsRow_lit (base := base) (e := 31) (size := 11) w14 #[.int .i64 3, .string ⟨#[]⟩, .int .u16 0, .int .u16 0, .int .u8 0, .bool false, .slice qA1 qm1 qc1, .int .i64 0, .int .i64 0, .int .i64 0, .slice none 0 0, .int .i64 2, .string ⟨#[]⟩, .int .u16 0, .int .u16 0, .int .u8 0, .bool false, .slice qA2 qm2 qc2, .int .i64 0, .int .i64 0, .int .i64 0, .slice none 0 0] 2 hbase (by decide) rfl
  · refine Reps.imp_ (ps := [_, _]) hrep (fun p c hp => k31.M_mono (fun k hk => ⟨trivial, fun he => ?_⟩) (Kd.M_below (k31.M_bound hp) (below_alloc (Below.refl _ _) _)))
    have h3 : w14.heap.size = k := by simpa [Value.ownBlock] using he.symm
    have := hk.2.2.1
    omega
theorem merge_step (l : List Fi) (r : List Fr) (i : Nat) (hi : i < r.length) : strOfNums (mergeTo (l.map itF) (r.map rlF) (i + 1)) = strOfNums (mergeTo (l.map itF) (r.map rlF) i) ++ (pdOf (l.map itF) (rlF r[i])).dat := by
  have e3 : (r.map rlF).getD i z96 = rlF r[i] := by simp [hi]
  rw [mergeTo, e3, str_append]
  congr 1
  unfold pdOf
  cases hp : pick (l.map itF) (rlF r[i]) with
  | none => rfl
  | some k => rfl
theorem merge_size {l : List Fi} (hk : KeptP l) (r : List Fr) (i : Nat) : (strOfNums (mergeTo (l.map itF) (r.map rlF) i)).size ≤ i * 2000 := by
  rw [strOfNums_size]
  refine mergeTo_le (fun x hx => ?_) _ i
  obtain ⟨y, hy, rfl⟩ := List.mem_map.1 hx
  obtain ⟨q, hq, rfl⟩ := List.mem_iff_getElem.1 hy
  have := (hk.2 q hq).1
  rw [show l.getD q z62 = l[q] by simp [hq]] at this
  simpa [itF, bytesOf_length] using this

set_option maxHeartbeats 16000000 in
set_option maxRecDepth 100000 in
theorem merge_walk (A0 A2 : Option Addr) (c0 c2 : Nat) (l : List Fi) (r : List Fr) (w : World) (h0 : kFi.C w A0 l.length l) (h2 : kFr.C w A2 r.length r) (l0 : l.length ≤ c0) (l2 : r.length ≤ c2) :
    Calls Tryz.prog 5 #[.slice A0 l.length c0, .slice A2 r.length c2] w fun e w' => e = .returned (.bool true) ∧ Below w.heap.size w w' := by
  have hus := Tryz.underlying31
  have hut := Tryz.underlying40
  have hup := Tryz.underlying71
  obtain ⟨k1, b1, f1⟩ := fits_f l
  have H0 := Aside0.mk h0
  have H2 := Aside0.mk h2
  have F1 := Aside0.mk f1
  have L0 := Aside0.mk l0
  have L2 := Aside0.mk l2
  clear f1 h0 h2 l0 l2
  go_enter Tryz.func5, Tryz.ntmps5
  cases b1 with
  | false =>
    go_wp2_with (go_at_call 8; refine (laws_zzFits1.calls k1 A0 c0 l false _ H0.out L0.out F1.out).mono ?_; rintro e w1 ⟨rfl, hb⟩; have HB2 := Aside0.mk hb; clear hb)
    go_ret
    exact ⟨rfl, HB2.out⟩
  | true =>
    by_cases hr : (r.length : Int) > 2147483647
    · have hrb : decide ((2147483647 : Int) < (r.length : Int)) = true := decide_eq_true hr
      clear hr
      go_wp2_with (go_at_call 8; refine (laws_zzFits1.calls k1 A0 c0 l true w H0.out L0.out F1.out).mono ?_; rintro e w1 ⟨rfl, hb⟩; have HB2 := Aside0.mk hb; clear hb)
      go_ret
      exact ⟨rfl, HB2.out⟩
    · have hrb : decide ((2147483647 : Int) < (r.length : Int)) = false := decide_eq_false hr
      clear hr
      go_upto_region 3 with (go_at_call 8; refine (laws_zzFits1.calls k1 A0 c0 l true w H0.out L0.out F1.out).mono ?_; rintro e w1 ⟨rfl, hb⟩; have HB2 := Aside0.mk hb; clear hb)
      clear hrb
      by_cases hkp : KeptP l
      · have HKP := Aside0.mk hkp
        have HBI := Aside0.mk (show true = true ↔ KeptP l from ⟨fun _ => hkp, fun _ => rfl⟩)
        clear hkp
        by_cases hr6 : (r.length : Int) > 60
        · have hr6b : decide ((60 : Int) < (r.length : Int)) = true := decide_eq_true hr6
          clear hr6
          go_wp2_with (go_at_call 9; refine (kept_told A0 c0 l true HBI.out _ (Kd.C_below H0.out HB2.out)).mono ?_; rintro e w6 ⟨rfl, hb⟩; have HB6 := Aside0.mk (HB2.out.trans (Below.mono hb HB2.out.size)); clear hb)
          go_ret
          exact ⟨rfl, HB6.out⟩
        · have hr6b : decide ((60 : Int) < (r.length : Int)) = false := decide_eq_false hr6
          have HR6 := Aside0.mk (show r.length ≤ 60 by omega)
          clear hr6
          go_upto_region 5 with (go_at_call 9; refine (kept_told A0 c0 l true HBI.out _ (Kd.C_below H0.out HB2.out)).mono ?_; rintro e w6 ⟨rfl, hb⟩; have HB6 := Aside0.mk (HB2.out.trans (Below.mono hb HB2.out.size)); clear hb)
          clear hr6b HBI
          obtain ⟨ls, hls⟩ : ∃ ls, ls = l.map stF := ⟨_, rfl⟩
          obtain ⟨rs, hrs⟩ : ∃ rs, rs = r.map irF := ⟨_, rfl⟩
          obtain ⟨s3, hs3⟩ : ∃ s3, s3 = ls ++ [kLast 3 r, kLast 2 r] := ⟨_, rfl⟩
          have HS3E := Aside0.mk (show s3 = mergeSteps l r by rw [hs3, hls]; rfl)
          have HN := Aside0.mk HKP.out.1
          have HPL := Aside0.mk (show laws_pushes.f (l.length + 1) l = some ls by rw [hls]; exact pushes_f l (by have := HN.out; omega))
          have HRL := Aside0.mk (show laws_rules.f (r.length + 1) r = some rs by rw [hrs]; exact lrules_f r (by have := HR6.out; omega))
          have HLL := Aside0.mk (show ls.length ≤ 60 by rw [hls, List.length_map]; have := HN.out; omega)
          have HRS := Aside0.mk hrs
          have HS3 := Aside0.mk hs3
          have HFT := Aside0.mk (show ∀ i, i < s3.length → Fit (runTo s3 i) (s3.getD i z31) from by rw [HS3E.out]; exact fun i hi => merge_fit HKP.out HR6.out i hi)
          have HL3 := Aside0.mk (show s3.length = l.length + 2 by rw [HS3E.out, merge_length])
          clear hls hrs hs3
          go_upto_region 6 with (first
            | (go_at_call 10; refine (laws_pushes.calls (l.length + 1) A0 c0 l ls _ (Kd.C_below H0.out HB6.out) L0.out HPL.out).mono ?_; rintro e w7 ⟨v7, rfl, hs, hb⟩; have HO7 := Aside0.mk (Kd.S_R hs); have HB7 := Aside0.mk (HB6.out.trans (Below.mono hb HB6.out.size)); have HLT7 := Aside0.mk (Kd.R_lt HO7.out); clear hs hb)
            | (go_at_call 11; have hgo9 := HO8.out; clear hgo9; refine (laws_rules.calls (r.length + 1) A2 c2 r rs _ (Kd.C_below H2.out HB8.out) L2.out HRL.out).mono ?_; rintro e w9 ⟨v9, rfl, hs, hb⟩; have HRB := Aside0.mk (Kd.R_lower hs HB78.out.size); have HRC := Aside0.mk (Kd.R_below HRA.out hb); obtain ⟨qA2, qm2, qc2, rfl⟩ : ∃ A m c, v9 = Value.slice A m c := (by obtain ⟨A, c, e⟩ := Kd.R_slice hs; exact ⟨A, _, c, e⟩); have HO9 := Aside0.mk (Kd.R_below HO8.out hb); have HB9 := Aside0.mk (HB8.out.trans (Below.mono hb HB8.out.size)); have HSZ9 := Aside0.mk (Nat.le_trans HB78.out.size hb.size); clear hs hb)
            | (go_at_call 11; refine (laws_rules.calls (r.length + 1) A2 c2 r rs _ (Kd.C_below H2.out HB7.out) L2.out HRL.out).mono ?_; rintro e w8 ⟨v8, rfl, hs, hb⟩; have HRA := Aside0.mk hs; have HB78 := Aside0.mk hb; obtain ⟨qA1, qm1, qc1, rfl⟩ : ∃ A m c, v8 = Value.slice A m c := (by obtain ⟨A, c, e⟩ := Kd.R_slice hs; exact ⟨A, _, c, e⟩); have HO8 := Aside0.mk (Kd.R_lower (Kd.R_below HO7.out hb) HB6.out.size); have HB8 := Aside0.mk (HB7.out.trans (Below.mono hb HB7.out.size)); clear hs hb)
            | ((with_reducible refine gate_dst (N := 34) rfl ?_); have hlit := two_lit HSZ9.out HRS.out HRC.out HRB.out; obtain ⟨LA, lc, hle, hlc, hlr⟩ := R_rows hlit; refine Kd.R_append_rows k31 (Rr := k31.M (w9.alloc (.cells #[.int .i64 3, .string ⟨#[]⟩, .int .u16 0, .int .u16 0, .int .u8 0, .bool false, .slice qA1 qm1 qc1, .int .i64 0, .int .i64 0, .int .i64 0, .slice none 0 0, .int .i64 2, .string ⟨#[]⟩, .int .u16 0, .int .u16 0, .int .u8 0, .bool false, .slice qA2 qm2 qc2, .int .i64 0, .int .i64 0, .int .i64 0, .slice none 0 0] 31)) w7.heap.size (fun k => True ∧ some k ≠ (Value.slice (some ⟨w9.heap.size, 0, none⟩) 2 2).ownBlock)) (w0 := w) w.heap.size rfl (.tmp 26) (.tmp 33) 25 31 _ 104 rfl Tryz.underlying25 info31 rfl (by decide) (by omega) v7 ls [kLast 3 r, kLast 2 r] (some ⟨w9.heap.size, 0, none⟩) 2 2 (fun _ => True) (fun k => w7.heap.size ≤ k) rfl rfl (Kd.R_alloc HO9.out _) (by cases hle; exact hlr) (fun x cs h => k31.M_lower HB7.out.size (k31.M_mono (fun k hk => hk.2.1) (k31.M_bound h))) (fun k hk => ⟨trivial, fun e => by have := HLT7.out k e.symm; omega⟩) (fun _ _ => trivial) (below_alloc HB9.out _) (by have := (below_alloc HB9.out (.cells #[.int .i64 3, .string ⟨#[]⟩, .int .u16 0, .int .u16 0, .int .u8 0, .bool false, .slice qA1 qm1 qc1, .int .i64 0, .int .i64 0, .int .i64 0, .slice none 0 0, .int .i64 2, .string ⟨#[]⟩, .int .u16 0, .int .u16 0, .int .u8 0, .bool false, .slice qA2 qm2 qc2, .int .i64 0, .int .i64 0, .int .i64 0, .slice none 0 0] 31)).size; exact this) (by have := HLL.out; omega) ?_; clear hlit hle hlc hlr; intro v12 w12 ho hb hg hat; rw [← HS3.out] at ho; have HO12 := Aside0.mk (Kd.R_reads ho); have HB12 := Aside0.mk hb; clear ho hb hg hat; obtain ⟨SA, sc, rfl, hsl, hsr⟩ := HO12.out; have HSR := Aside0.mk hsr; clear hsl hsr)
            | (go_at_call 12; refine (cache_calls SA sc s3 w12 HSR.out (by have := HL3.out; have := HN.out; omega) HFT.out).mono ?_; rintro e w13 ⟨v13, rfl, ht, hb⟩; have HT13 := Aside0.mk ht; have HB13 := Aside0.mk (HB12.out.trans (Below.mono hb HB12.out.size)); clear ht hb))
          clear HO7 HO8 HO9 HB7 HB8 HB9 HB78 HRA HRB HRC HLT7 HO12 HSZ9
          obtain ⟨g13, p13, rfl, hg13, _, _⟩ := Kd.R_form HT13.out (by rw [tolds_length, HL3.out]; omega)
          rw [tolds_length] at HT13 ⊢
          obtain ⟨ps, hps⟩ : ∃ ps, ps = (r.map rlF).map (pdOf (l.map itF)) := ⟨_, rfl⟩
          obtain ⟨TX, hTX⟩ : ∃ TX, TX = strOfNums (mergeTo (l.map itF) (r.map rlF) r.length) := ⟨_, rfl⟩
          have HPS := Aside0.mk (show ps.length = r.length by rw [hps]; simp)
          have HPX := Aside0.mk hps
          have HTX := Aside0.mk hTX
          have HTF := Aside0.mk (show spec_FlightMerge.f (r.length + r.length * (l.length + 2) + 1) l r = some TX by rw [hTX]; exact fmerge_f l r HKP.out HR6.out)
          obtain ⟨pv, _, hpv, hpr⟩ := told_cells HT13.out (l.length + 1) ⟨false, 0, ⟨#[]⟩, ps⟩ (by rw [HS3E.out, hps]; exact merge_told1 l r)
          obtain ⟨_, htx, _, _⟩ := told_cells HT13.out l.length ⟨false, 0, TX, []⟩ (by rw [HS3E.out, hTX]; exact merge_told0 l r)
          clear hps hg13 hTX
          obtain ⟨pA, pc, rfl⟩ := Kd.R_slice hpr
          rw [HPS.out] at hpr hpv
          have HPR := Aside0.mk hpr
          have HPV := Aside0.mk hpv
          have HTT := Aside0.mk htx
          have hl3 := HL3.out
          rw [hl3]
          have hsum : IntKind.i64.wrap ((l.length : Int) + 2) = ((l.length + 2 : Nat) : Int) := by rw [IntKind.wrap_i64]; have := HN.out; omega
          have hsum1 : IntKind.i64.wrap ((l.length : Int) + 1) = ((l.length + 1 : Nat) : Int) := by rw [IntKind.wrap_i64]; have := HN.out; omega
          have n0 := eq_true (show (0 : Int) ≤ ((l.length + 1 : Nat) : Int) by omega)
          have n1 := eq_true (show ((l.length + 1 : Nat) : Int) < ((l.length + 2 : Nat) : Int) by omega)
          clear hl3 hpr htx
          go_upto_region 8 with (fail)
          go_wp2
          clear hsum hsum1 n0 n1 hpv
          go_loopg [6, 63] r.length (fun gk v6 v63 w' => ∃ i : Nat, v63 = .int .i64 i ∧ v6 = .string (strOfNums (mergeTo (l.map itF) (r.map rlF) i)) ∧ Aside0 (gk = r.length - i) ∧ Aside0 (i ≤ r.length) ∧ Aside0 (Below w.heap.size w w') ∧ Aside0 (Below w13.heap.size w13 w'))
          case atStart => exact ⟨0, rfl, rfl, ⟨by omega⟩, ⟨by omega⟩, HB13, ⟨Below.refl _ _⟩⟩
          case round =>
            obtain ⟨i, rfl, rfl, HG, HI, HBr, HBq⟩ := hrel
            by_cases hlt : i < r.length
            · have hltb : decide ((i : Int) < (r.length : Int)) = true := decide_eq_true (by omega)
              have i0 : (0 : Int) ≤ (i : Int) := by omega
              have i1 : (i : Int) < (r.length : Int) := by omega
              obtain ⟨gp, pcap, hpe, _, _, _⟩ := Kd.R_form HPR.out (by rw [HPS.out]; omega)
              have epa : pA = some ⟨gp, 0, none⟩ := by simpa using (Value.slice.inj hpe).1
              subst epa
              have hpi : ps[i]? = some (pdOf (l.map itF) (rlF r[i])) := by rw [HPX.out]; simp [hlt]
              obtain ⟨d0, d1, d2, d3⟩ := pd_cells HPR.out i _ hpi
              replace d0 := (HBq.out.cell (World.block_lt_of_cell? _ _ d0)).trans d0
              replace d1 := (HBq.out.cell (World.block_lt_of_cell? _ _ d1)).trans d1
              replace d2 := (HBq.out.cell (World.block_lt_of_cell? _ _ d2)).trans d2
              replace d3 := (HBq.out.cell (World.block_lt_of_cell? _ _ d3)).trans d3
              have hst := merge_step l r i hlt
              have hs1 := merge_size HKP.out r (i + 1)
              have hr6 := HR6.out
              rw [hst, ByteArray.size_append] at hs1
              have hss : (strOfNums (mergeTo (l.map itF) (r.map rlF) i)).size + (pdOf (l.map itF) (rlF r[i])).dat.size ≤ 9223372036854775807 := by
                have : (i + 1) * 2000 ≤ 60 * 2000 := Nat.mul_le_mul_right _ (by omega)
                omega
              generalize pdOf (l.map itF) (rlF r[i]) = pp at *
              generalize strOfNums (mergeTo (l.map itF) (r.map rlF) i) = sv at *
              have HST := Aside0.mk hst
              clear hpi hpe hst hs1 hr6
              have i0t := eq_true i0
              have i1t := eq_true i1
              go_upto_region 12 with ((with_reducible refine gate_dst (N := 8) rfl ?_); refine box_event ?hg (N := 8) ?hd (cs := #[.bool false, .int .u16 0, .int .u16 0, .string ⟨#[]⟩]) (t := 71) ?hr ?_; (case hd => rfl); (case hg => rfl); (case hr => first | (go_simp; done) | (go_simp; rfl)); intro gb hgb w15 hbox hb; have HB15 := Aside0.mk (HBr.out.trans (Below.mono hb HBr.out.size)); have HQ15 := Aside0.mk (HBq.out.trans (Below.mono hb HBq.out.size)); have HX15 := Aside0.mk hbox; have HG1 := Aside0.mk (show w.heap.size ≤ gb by rw [hgb]; exact HBr.out.size); have HG2 := Aside0.mk (show w13.heap.size ≤ gb by rw [hgb]; exact HBq.out.size); have k0 := (blk_cell hbox 0).trans rfl; have k1 := (blk_cell hbox 1).trans rfl; have k2 := (blk_cell hbox 2).trans rfl; have k3 := (blk_cell hbox 3).trans rfl; have m0 := blk_frozen hbox 0; have m1 := blk_frozen hbox 1; have m2 := blk_frozen hbox 2; have m3 := blk_frozen hbox 3; clear hb hgb hbox)
              obtain ⟨w16, hw16⟩ : ∃ w16, w16 = (((w15.setCell ⟨gb, 0, none⟩ (.bool pp.has)).setCell ⟨gb, 1, none⟩ (.int .u16 pp.ep)).setCell ⟨gb, 2, none⟩ (.int .u16 pp.sq)).setCell ⟨gb, 3, none⟩ (.string pp.dat) := ⟨_, rfl⟩
              rw [← hw16]
              have HLK := Aside0.mk (show Lkd w15 w16 gb from hw16 ▸ ((((Lkd.refl w15 gb).set 0 _).set 1 _).set 2 _).set 3 _)
              have HX16 := Aside0.mk (show w16.heap[gb]? = some (.cells #[.bool pp.has, .int .u16 pp.ep, .int .u16 pp.sq, .string pp.dat] 71 (0, 0)) from hw16 ▸ blk_put (cs' := #[.bool pp.has, .int .u16 pp.ep, .int .u16 pp.sq, .string pp.dat]) (blk_put (cs' := #[.bool pp.has, .int .u16 pp.ep, .int .u16 pp.sq, .string ⟨#[]⟩]) (blk_put (cs' := #[.bool pp.has, .int .u16 pp.ep, .int .u16 0, .string ⟨#[]⟩]) (blk_put (cs' := #[.bool pp.has, .int .u16 0, .int .u16 0, .string ⟨#[]⟩]) HX15.out 0 _ rfl) 1 _ rfl) 2 _ rfl) 3 _ rfl)
              have HB16 := Aside0.mk (HB15.out.only HLK.out HG1.out)
              have HQ16 := Aside0.mk (HQ15.out.only HLK.out HG2.out)
              clear hw16 k0 k1 k2 k3 m0 m1 m2 m3 d0 d1 d2 d3 HB15 HQ15 HX15
              have k3 := (blk_cell HX16.out 3).trans rfl
              go_wp2
              go_roundg (r.length - (i + 1))
              case measure => have := HG.out; omega
              case rel => exact ⟨i + 1, by rw [wrap_next i (by have := HR6.out; omega)], by rw [HST.out], ⟨rfl⟩, ⟨by omega⟩, HB16, HQ16⟩
            · have hltb : decide ((i : Int) < (r.length : Int)) = false := decide_eq_false (by omega)
              have hil : i = r.length := by have := HI.out; omega
              subst hil
              rw [← HTX.out]
              have t2 := (HBq.out.cell (World.block_lt_of_cell? _ _ HTT.out)).trans HTT.out
              have n0 := eq_true (show (0 : Int) ≤ (l.length : Int) by omega)
              have n1 := eq_true (show (l.length : Int) < ((l.length + 2 : Nat) : Int) by omega)
              go_wp2_with (go_at_call 13; refine (spec_FlightMerge.calls _ A0 c0 l A2 c2 r TX _ (Kd.C_below H0.out HBr.out) L0.out (Kd.C_below H2.out HBr.out) L2.out HTF.out).mono ?_; rintro e w18 ⟨rfl, hb⟩; have HB18 := Aside0.mk (HBr.out.trans (Below.mono hb HBr.out.size)); clear hb)
              go_ret
              exact ⟨rfl, HB18.out⟩
      · have HBI := Aside0.mk (show false = true ↔ KeptP l from ⟨fun h => absurd h (by decide), fun h => absurd h hkp⟩)
        clear hkp
        go_wp2_with (go_at_call 9; refine (kept_told A0 c0 l false HBI.out _ (Kd.C_below H0.out HB2.out)).mono ?_; rintro e w6 ⟨rfl, hb⟩; have HB6 := Aside0.mk (HB2.out.trans (Below.mono hb HB2.out.size)); clear hb)
        go_ret
        exact ⟨rfl, HB6.out⟩
end Go.Proofs.YtmkbebincjppnaaGreatDoor
