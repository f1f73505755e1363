/- laws.FnCachePull returns true: its walk. -/
import Derived.Test.YtmkbebincjppnaaGreatDoorRm
namespace Go.Proofs.YtmkbebincjppnaaGreatDoor
open Go.RowKit Go.Proofs.YtmkbebincjppnaaGreatDoorW.PrintWords Go.Proofs.YtmkbebincjppnaaGreatDoorW.PrintLast Go.Proofs.YtmkbebincjppnaaGreatDoorW.PrintMore Go.Proofs.YtmkbebincjppnaaGreatDoor.PLib
set_option linter.unusedVariables false
set_option linter.unusedSimpArgs false

/-- What a pulled element's cells are. -/
theorem pd_cells {w : World} {e base g n c : Nat} {ok : Nat → Prop} {ts : List Pd} (h : kPd.R e w base ok (.slice (some ⟨g, 0, none⟩) n c) ts) (i : Nat) (t : Pd) (ht : ts[i]? = some t) :
    w.cell? ⟨g, i * 4, none⟩ = some (.bool t.has) ∧ w.cell? ⟨g, i * 4 + 1, none⟩ = some (.int .u16 t.ep) ∧ w.cell? ⟨g, i * 4 + 2, none⟩ = some (.int .u16 t.sq) ∧ w.cell? ⟨g, i * 4 + 3, none⟩ = some (.string t.dat) := by
  obtain ⟨_, inner, ho, hr⟩ := h
  have h2 := hr.2 i t ht
  obtain ⟨_, _, he, rfl, ⟨_, _, rfl, rfl, ⟨_, _, rfl, rfl, rfl⟩⟩⟩ := h2
  have hin : ∀ j u, ([.bool t.has] ++ ([.int .u16 t.ep] ++ ([.int .u16 t.sq] ++ [.string t.dat])) : List Value)[j]? = some u → inner[i * 4 + j]? = some u := by
    intro j u hu
    rw [← he] at hu
    have hj : j < 4 := by
      have := (List.getElem?_eq_some_iff.1 hu).1
      rw [List.length_take] at this
      have h5 : kPd.sz = 4 := rfl
      omega
    rw [List.getElem?_take, if_pos (by exact hj), List.getElem?_drop] at hu
    exact hu
  have hc : ∀ j u, ([.bool t.has] ++ ([.int .u16 t.ep] ++ ([.int .u16 t.sq] ++ [.string t.dat])) : List Value)[j]? = some u → w.cell? ⟨g, i * 4 + j, none⟩ = some u := by
    intro j u hu
    have h5 := ho.cells (g := g) rfl (i * 4 + j) u (hin j u hu)
    rwa [add_plain] at h5
  exact ⟨hc 0 _ rfl, hc 1 _ rfl, hc 2 _ rfl, hc 3 _ rfl⟩

set_option maxHeartbeats 16000000 in
set_option maxRecDepth 100000 in
theorem pull_walk (A0 A2 : Option Addr) (c0 c2 : Nat) (l : List Fi) (r : List Fr) (w : World) (h0 : kFi.C w A0 l.length l) (h2 : kFr.C w A2 r.length r) (l0 : l.length ≤ c0) (l2 : r.length ≤ c2) :
    Calls Tryz.prog 6 #[.slice A0 l.length c0, .slice A2 r.length c2] w fun e w' => e = .returned (.bool true) ∧ Below w.heap.size w w' := by
  have hus := Tryz.underlying31
  have hut := Tryz.underlying40
  have hup := Tryz.underlying71
  obtain ⟨k1, b1, f1⟩ := fits_f l
  have H0 := Aside0.mk h0
  have H2 := Aside0.mk h2
  have F1 := Aside0.mk f1
  have L0 := Aside0.mk l0
  have L2 := Aside0.mk l2
  clear f1 h0 h2 l0 l2
  go_enter Tryz.func6, Tryz.ntmps6
  cases b1 with
  | false =>
    go_wp2_with (go_at_call 8; refine (laws_zzFits1.calls k1 A0 c0 l false _ H0.out L0.out F1.out).mono ?_; rintro e w1 ⟨rfl, hb⟩; have HB2 := Aside0.mk hb; clear hb)
    go_ret
    exact ⟨rfl, HB2.out⟩
  | true =>
    by_cases hr : (r.length : Int) > 2147483647
    · have hrb : decide ((2147483647 : Int) < (r.length : Int)) = true := decide_eq_true hr
      clear hr
      go_wp2_with (go_at_call 8; refine (laws_zzFits1.calls k1 A0 c0 l true w H0.out L0.out F1.out).mono ?_; rintro e w1 ⟨rfl, hb⟩; have HB2 := Aside0.mk hb; clear hb)
      go_ret
      exact ⟨rfl, HB2.out⟩
    · have hrb : decide ((2147483647 : Int) < (r.length : Int)) = false := decide_eq_false hr
      clear hr
      go_upto_region 3 with (go_at_call 8; refine (laws_zzFits1.calls k1 A0 c0 l true w H0.out L0.out F1.out).mono ?_; rintro e w1 ⟨rfl, hb⟩; have HB2 := Aside0.mk hb; clear hb)
      clear hrb
      by_cases hkp : KeptP l
      · have HKP := Aside0.mk hkp
        have HBI := Aside0.mk (show true = true ↔ KeptP l from ⟨fun _ => hkp, fun _ => rfl⟩)
        clear hkp
        by_cases hr6 : (r.length : Int) > 60
        · have hr6b : decide ((60 : Int) < (r.length : Int)) = true := decide_eq_true hr6
          clear hr6
          go_wp2_with (go_at_call 9; refine (kept_told A0 c0 l true HBI.out _ (Kd.C_below H0.out HB2.out)).mono ?_; rintro e w6 ⟨rfl, hb⟩; have HB6 := Aside0.mk (HB2.out.trans (Below.mono hb HB2.out.size)); clear hb)
          go_ret
          exact ⟨rfl, HB6.out⟩
        · have hr6b : decide ((60 : Int) < (r.length : Int)) = false := decide_eq_false hr6
          have HR6 := Aside0.mk (show r.length ≤ 60 by omega)
          clear hr6
          go_upto_region 5 with (go_at_call 9; refine (kept_told A0 c0 l true HBI.out _ (Kd.C_below H0.out HB2.out)).mono ?_; rintro e w6 ⟨rfl, hb⟩; have HB6 := Aside0.mk (HB2.out.trans (Below.mono hb HB2.out.size)); clear hb)
          clear hr6b HBI
          obtain ⟨ls, hls⟩ : ∃ ls, ls = l.map stF := ⟨_, rfl⟩
          obtain ⟨rs, hrs⟩ : ∃ rs, rs = r.map irF := ⟨_, rfl⟩
          obtain ⟨s3, hs3⟩ : ∃ s3, s3 = ls ++ [kLast 2 r] := ⟨_, rfl⟩
          have HS3E := Aside0.mk (show s3 = pullSteps l r by rw [hs3, hls]; rfl)
          have HN := Aside0.mk HKP.out.1
          have HPL := Aside0.mk (show laws_pushes.f (l.length + 1) l = some ls by rw [hls]; exact pushes_f l (by have := HN.out; omega))
          have HRL := Aside0.mk (show laws_rules.f (r.length + 1) r = some rs by rw [hrs]; exact lrules_f r (by have := HR6.out; omega))
          have HLL := Aside0.mk (show ls.length ≤ 60 by rw [hls, List.length_map]; have := HN.out; omega)
          have HRS := Aside0.mk (show (kLast 2 r).f6 = rs by rw [hrs]; rfl)
          have HS3 := Aside0.mk hs3
          have HFT := Aside0.mk (show ∀ i, i < s3.length → Fit (runTo s3 i) (s3.getD i z31) from by rw [HS3E.out]; exact fun i hi => pull_fit HKP.out HR6.out i hi)
          have HL3 := Aside0.mk (show s3.length = l.length + 1 by rw [HS3E.out, pull_length])
          clear hls hrs hs3
          go_upto_region 6 with (first
            | (go_at_call 10; refine (laws_pushes.calls (l.length + 1) A0 c0 l ls _ (Kd.C_below H0.out HB6.out) L0.out HPL.out).mono ?_; rintro e w7 ⟨v7, rfl, hs, hb⟩; have HO7 := Aside0.mk (Kd.S_R hs); have HB7 := Aside0.mk (HB6.out.trans (Below.mono hb HB6.out.size)); have HLT7 := Aside0.mk (Kd.R_lt HO7.out); clear hs hb)
            | (go_at_call 11; refine (laws_rules.calls (r.length + 1) A2 c2 r rs _ (Kd.C_below H2.out HB7.out) L2.out HRL.out).mono ?_; rintro e w11 ⟨v11, rfl, hs, hb⟩; have HRR := Aside0.mk (Kd.R_mono (Kd.R_bound hs) (fun k hk => hk.2.1)); obtain ⟨RA, rc, rfl⟩ := Kd.R_slice hs; have HO11 := Aside0.mk (Kd.R_lower (Kd.R_below HO7.out hb) HB6.out.size); have HB11 := Aside0.mk (HB7.out.trans (Below.mono hb HB7.out.size)); clear hs hb)
            | ((with_reducible refine gate_dst (N := 31) rfl ?_); refine Kd.R_append k31 (w0 := w) w.heap.size rfl (.tmp 26) (.tmp 30) 25 31 _ 104 rfl Tryz.underlying25 info31 rfl (by decide) (by omega) v7 ls (kLast 2 r) [.int .i64 2, .string ⟨#[]⟩, .int .u16 0, .int .u16 0, .int .u8 0, .bool false, .slice RA rs.length rc, .int .i64 0, .int .i64 0, .int .i64 0, .slice none 0 0] (fun _ => True) (fun k => w7.heap.size ≤ k) rfl rfl (k31_mkM _ _ _ (kLast 2 r) (by rw [HRS.out]; exact Kd.R_lower HRR.out HB7.out.size) (Kd.R_nil _ _ _ _ _)) (fun k hk => ⟨trivial, fun e => by have := HLT7.out k e.symm; omega⟩) (fun _ _ => trivial) HO11.out HB11.out HB11.out.size (by have := HLL.out; omega) ?_; intro v12 w12 ho hb hg hat; rw [← HS3.out] at ho; have HO12 := Aside0.mk (Kd.R_reads ho); have HB12 := Aside0.mk hb; clear ho hb hg hat; obtain ⟨SA, sc, rfl, hsl, hsr⟩ := HO12.out; have HSR := Aside0.mk hsr; clear hsl hsr)
            | (go_at_call 12; refine (cache_calls SA sc s3 w12 HSR.out (by have := HL3.out; have := HN.out; omega) HFT.out).mono ?_; rintro e w13 ⟨v13, rfl, ht, hb⟩; have HT13 := Aside0.mk ht; have HB13 := Aside0.mk (HB12.out.trans (Below.mono hb HB12.out.size)); clear ht hb))
          clear HO7 HO11 HB7 HB11 HRR HLT7 HO12
          obtain ⟨g13, p13, rfl, hg13, _, _⟩ := Kd.R_form HT13.out (by rw [tolds_length, HL3.out]; omega)
          rw [tolds_length] at HT13 ⊢
          obtain ⟨ps, hps⟩ : ∃ ps, ps = (r.map rlF).map (pdOf (l.map itF)) := ⟨_, rfl⟩
          have HPS := Aside0.mk (show ps.length = r.length by rw [hps]; simp)
          have HPX := Aside0.mk hps
          obtain ⟨pv, _, hpv, hpr⟩ := told_cells HT13.out l.length ⟨false, 0, ⟨#[]⟩, ps⟩ (by rw [HS3E.out, hps]; exact pull_told l r)
          clear hps hg13
          obtain ⟨pA, pc, rfl⟩ := Kd.R_slice hpr
          rw [HPS.out] at hpr hpv
          have HPR := Aside0.mk hpr
          have HPV := Aside0.mk hpv
          have hl3 := HL3.out
          rw [hl3]
          have hsum : IntKind.i64.wrap ((l.length : Int) + 1) = ((l.length + 1 : Nat) : Int) := by rw [IntKind.wrap_i64]; have := HN.out; omega
          have n0 := eq_true (show (0 : Int) ≤ (l.length : Int) by omega)
          have n1 := eq_true (show (l.length : Int) < ((l.length + 1 : Nat) : Int) by omega)
          clear hl3 hpr
          go_upto_region 8 with (fail)
          clear hsum n0 n1 hpv
          obtain ⟨qs, hqs⟩ : ∃ qs, qs = picksF l r := ⟨_, rfl⟩
          have HQF := Aside0.mk (show spec_FlightPull.f (0 + r.length * (l.length + 2) + 1) l r = some qs by rw [hqs]; exact fpull_f l r HKP.out HR6.out 0)
          have HQL := Aside0.mk (show qs.length = r.length by rw [hqs]; simp [picksF])
          have HQS := Aside0.mk hqs
          clear hqs
          go_wp2_with (go_at_call 19; refine (spec_FlightPull.calls _ A0 c0 l A2 c2 r qs _ (Kd.C_below H0.out HB13.out) L0.out (Kd.C_below H2.out HB13.out) L2.out HQF.out).mono ?_; rintro e w14 ⟨kv, rfl, hs, hb⟩; obtain ⟨qA, qc, rfl⟩ := Kd.R_slice hs; rw [HQL.out] at hs ⊢; have HQC := Aside0.mk (show (Kd.int .i64).C w14 qA r.length qs by have h9 := (Kd.R_reads' hs).2.2; rwa [HQL.out] at h9); have HB14 := Aside0.mk (HB13.out.trans (Below.mono hb HB13.out.size)); have HPV14 := Aside0.mk ((hb.cell (World.block_lt_of_cell? _ _ HPV.out)).trans HPV.out); have HPR14 := Aside0.mk (Kd.R_below HPR.out hb); clear hb hs)
          go_loopg [55] r.length (fun gk v55 w' => ∃ i : Nat, v55 = .int .i64 i ∧ Aside0 (gk = r.length - i) ∧ Aside0 (i ≤ r.length) ∧ Aside0 (Below w.heap.size w w') ∧ Aside0 (Below w14.heap.size w14 w'))
          case atStart => exact ⟨0, rfl, ⟨by omega⟩, ⟨by omega⟩, HB14, ⟨Below.refl _ _⟩⟩
          case round =>
            obtain ⟨i, rfl, HG, HI, HBr, HBq⟩ := hrel
            by_cases hlt : i < r.length
            · have hltb : decide ((i : Int) < (r.length : Int)) = true := decide_eq_true (by omega)
              have i0 : (0 : Int) ≤ (i : Int) := by omega
              have i1 : (i : Int) < (r.length : Int) := by omega
              obtain ⟨qad, rfl, hq⟩ := Kd.at_int HQC.out (i : Int) i0 i1
              simp only [Int.toNat_natCast] at hq
              replace hq := (HBq.out.cell (World.block_lt_of_cell? _ _ hq)).trans hq
              obtain ⟨gp, pcap, hpe, _, _, _⟩ := Kd.R_form HPR14.out (by rw [HPS.out]; omega)
              have epa : pA = some ⟨gp, 0, none⟩ := by simpa using (Value.slice.inj hpe).1
              subst epa
              have hpi : ps[i]? = some (pdOf (l.map itF) (rlF r[i])) := by rw [HPX.out]; simp [hlt]
              obtain ⟨d0, d1, d2, d3⟩ := pd_cells HPR14.out i _ hpi
              replace d0 := (HBq.out.cell (World.block_lt_of_cell? _ _ d0)).trans d0
              replace d1 := (HBq.out.cell (World.block_lt_of_cell? _ _ d1)).trans d1
              replace d2 := (HBq.out.cell (World.block_lt_of_cell? _ _ d2)).trans d2
              replace d3 := (HBq.out.cell (World.block_lt_of_cell? _ _ d3)).trans d3
              have t3 := (HBq.out.cell (World.block_lt_of_cell? _ _ HPV14.out)).trans HPV14.out
              have hqv : rd qs (i : Int) = encP (pick (l.map itF) (rlF r[i])) := by rw [HQS.out]; simp [rd, picksF, hlt]
              rw [hqv] at hq
              obtain ⟨pp, hpp⟩ : ∃ pp, pp = pdOf (l.map itF) (rlF r[i]) := ⟨_, rfl⟩
              rw [← hpp] at d0 d1 d2 d3
              have HPP := Aside0.mk hpp
              obtain ⟨kq, hkq⟩ : ∃ kq, kq = encP (pick (l.map itF) (rlF r[i])) := ⟨_, rfl⟩
              rw [← hkq] at hq
              have HKQ := Aside0.mk hkq
              have hpk : ∃ o, pick (l.map itF) (rlF r[i]) = o := ⟨_, rfl⟩
              have HPK := Aside0.mk hpk
              clear hpp hkq hpi hpe hqv hpk
              have i0t := eq_true i0
              have i1t := eq_true i1
              have n0 := eq_true (show (0 : Int) ≤ (l.length : Int) by omega)
              have n1 := eq_true (show (l.length : Int) < ((l.length + 1 : Nat) : Int) by omega)
              go_upto_region 12 with ((with_reducible refine gate_dst (N := 8) rfl ?_); refine box_event ?hg (N := 8) ?hd (cs := #[.bool false, .int .u16 0, .int .u16 0, .string ⟨#[]⟩]) (t := 71) ?hr ?_; (case hd => rfl); (case hg => rfl); (case hr => first | (go_simp; done) | (go_simp; rfl)); intro gb hgb w15 hbox hb; have HB15 := Aside0.mk (HBr.out.trans (Below.mono hb HBr.out.size)); have HQ15 := Aside0.mk (HBq.out.trans (Below.mono hb HBq.out.size)); have HX15 := Aside0.mk hbox; have HG1 := Aside0.mk (show w.heap.size ≤ gb by rw [hgb]; exact HBr.out.size); have HG2 := Aside0.mk (show w14.heap.size ≤ gb by rw [hgb]; exact HBq.out.size); have k0 := (blk_cell hbox 0).trans rfl; have k1 := (blk_cell hbox 1).trans rfl; have k2 := (blk_cell hbox 2).trans rfl; have k3 := (blk_cell hbox 3).trans rfl; have m0 := blk_frozen hbox 0; have m1 := blk_frozen hbox 1; have m2 := blk_frozen hbox 2; have m3 := blk_frozen hbox 3; clear hb hgb hbox)
              obtain ⟨w16, hw16⟩ : ∃ w16, w16 = (((w15.setCell ⟨gb, 0, none⟩ (.bool pp.has)).setCell ⟨gb, 1, none⟩ (.int .u16 pp.ep)).setCell ⟨gb, 2, none⟩ (.int .u16 pp.sq)).setCell ⟨gb, 3, none⟩ (.string pp.dat) := ⟨_, rfl⟩
              rw [← hw16]
              have HLK := Aside0.mk (show Lkd w15 w16 gb from hw16 ▸ ((((Lkd.refl w15 gb).set 0 _).set 1 _).set 2 _).set 3 _)
              have HX16 := Aside0.mk (show w16.heap[gb]? = some (.cells #[.bool pp.has, .int .u16 pp.ep, .int .u16 pp.sq, .string pp.dat] 71 (0, 0)) from hw16 ▸ blk_put (cs' := #[.bool pp.has, .int .u16 pp.ep, .int .u16 pp.sq, .string pp.dat]) (blk_put (cs' := #[.bool pp.has, .int .u16 pp.ep, .int .u16 pp.sq, .string ⟨#[]⟩]) (blk_put (cs' := #[.bool pp.has, .int .u16 pp.ep, .int .u16 0, .string ⟨#[]⟩]) (blk_put (cs' := #[.bool pp.has, .int .u16 0, .int .u16 0, .string ⟨#[]⟩]) HX15.out 0 _ rfl) 1 _ rfl) 2 _ rfl) 3 _ rfl)
              have HB16 := Aside0.mk (HB15.out.only HLK.out HG1.out)
              have HQ16 := Aside0.mk (HQ15.out.only HLK.out HG2.out)
              clear hw16 k0 k1 k2 k3 m0 m1 m2 m3 d0 d1 d2 d3 t3 hq HB15 HQ15 HX15
              have k0 := (blk_cell HX16.out 0).trans rfl
              have k1 := (blk_cell HX16.out 1).trans rfl
              have k2 := (blk_cell HX16.out 2).trans rfl
              have k3 := (blk_cell HX16.out 3).trans rfl
              cases hpk : pick (l.map itF) (rlF r[i]) with
              | none =>
                have e1 : pp = ⟨false, 0, 0, ⟨#[]⟩⟩ := by rw [HPP.out]; simp [pdOf, hpk]
                have e2 : kq = -1 := by rw [HKQ.out, hpk]; rfl
                subst e1 e2
                have ge : decide ((0 : Int) ≤ -1) = false := by decide
                clear hpk
                go_wp2
                repeat (go_quiet (fail); try go_wp2)
                go_roundg (r.length - (i + 1))
                case measure => have := HG.out; omega
                case rel => exact ⟨i + 1, by rw [wrap_next i (by have := HR6.out; omega)], ⟨rfl⟩, ⟨by omega⟩, ⟨pw_below_drewN HB16.out _⟩, ⟨pw_below_drewN HQ16.out _⟩⟩
              | some k =>
                have hkl : k < l.length := by have := (pickTo_lt _ _ _ _ hpk).2; simpa using this
                have e1 : pp = ⟨true, l[k].f1, l[k].f2, l[k].f0⟩ := by rw [HPP.out]; simp [pdOf, hpk, hkl, itF, str_bytes]
                have e2 : kq = (k : Int) := by rw [HKQ.out, hpk]; rfl
                subst e1 e2
                have j0 : (0 : Int) ≤ (k : Int) := by omega
                have j1 : (k : Int) < (l.length : Int) := by omega
                obtain ⟨ar, rfl, x0, x1, x2, _, _⟩ := at_T62 H0.out (k : Int) j0 j1
                have hrd : rd_T62 l (k : Int) = l[k] := by simp [rd_T62, hkl]
                rw [hrd] at x0 x1 x2
                simp only [Int.toNat_natCast] at x0 x1 x2
                replace x0 := (HB16.out.cell (World.block_lt_of_cell? w _ x0)).trans x0
                replace x1 := (HB16.out.cell (World.block_lt_of_cell? w _ x1)).trans x1
                replace x2 := (HB16.out.cell (World.block_lt_of_cell? w _ x2)).trans x2
                generalize l[k] = y at *
                have ge : decide ((0 : Int) ≤ (k : Int)) = true := decide_eq_true j0
                have j0t := eq_true j0
                have j1t := eq_true j1
                clear hpk hrd
                go_wp2
                repeat (go_quiet (fail); try go_wp2)
                go_roundg (r.length - (i + 1))
                case measure => have := HG.out; omega
                case rel => exact ⟨i + 1, by rw [wrap_next i (by have := HR6.out; omega)], ⟨rfl⟩, ⟨by omega⟩, ⟨pw_below_drewN HB16.out _⟩, ⟨pw_below_drewN HQ16.out _⟩⟩
            · have hltb : decide ((i : Int) < (r.length : Int)) = false := decide_eq_false (by omega)
              go_wp2
              go_ret
              exact ⟨rfl, HBr.out⟩
      · have HBI := Aside0.mk (show false = true ↔ KeptP l from ⟨fun h => absurd h (by decide), fun h => absurd h hkp⟩)
        clear hkp
        go_wp2_with (go_at_call 9; refine (kept_told A0 c0 l false HBI.out _ (Kd.C_below H0.out HB2.out)).mono ?_; rintro e w6 ⟨rfl, hb⟩; have HB6 := Aside0.mk (HB2.out.trans (Below.mono hb HB2.out.size)); clear hb)
        go_ret
        exact ⟨rfl, HB6.out⟩
end Go.Proofs.YtmkbebincjppnaaGreatDoor
