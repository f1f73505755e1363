/- The cache's push: a message that it does not have yet, and for which there is room, is kept behind the others; a finished cache keeps nothing new. -/
import Derived.Test.YtmkbebincjppnaaGreatDoorCl
import Derived.Conc.MuLone
import Derived.Defers
import Derived.Outline
import Derived.Deep.RegionHeld3
namespace Go.Proofs.YtmkbebincjppnaaGreatDoor
open Go.RowKit Go.MuLone Go.Proofs.YtmkbebincjppnaaGreatDoorW.PrintWords Go.Proofs.YtmkbebincjppnaaGreatDoorW.PrintLast Go.Proofs.YtmkbebincjppnaaGreatDoorW.PrintMore
set_option linter.unusedVariables false
set_option linter.unusedSimpArgs false

theorem info_pitem : (Tryz.prog.info? 158).map (fun i => (i.zero, i.size, i.bytes)) = some (some (.pointer none), 1, 8) := by kernel_rfl

/-- The new message, in its box. -/
theorem push_item {w2 w3 : World} {base h : Nat} {v : Value} {its : List It} {sz lk : Int} {done : Bool} (c : Ca w2 base h v its sz done lk) (hbase : base ≤ w2.heap.size) {dv : Value} {dat : List Int} (ty : Int) (cl : Bool) (ep sq : Int)
    (hd : (Kd.int .u8).R 5 w3 w2.heap.size (fun _ => True) dv dat) (hb : Below w2.heap.size w2 w3) :
    kRef.M (w3.alloc (.cells #[.int .u8 ty, .bool cl, .int .u16 ep, .int .u16 sq, dv] 162)) base (fun k => some k ≠ v.ownBlock) ⟨ty, cl, ep, sq, dat⟩ [.pointer (some ⟨w3.heap.size, 0, none⟩)] := by
  have hlt := Kd.R_lt c.row
  have hsz := hb.size
  refine ⟨w3.heap.size, _, rfl, by omega, fun e => by have := hlt _ e.symm; omega, heap_alloc_new w3 _, ?_⟩
  refine kIt_mkM ⟨ty, cl, ep, sq, dat⟩ ?_
  exact Kd.R_alloc (Kd.R_lower (Kd.R_mono (Kd.R_bound hd) (fun k hk e => by have := hlt k e.symm; have := hk.2.1; omega)) hbase) _

/-- The row with one message more, put into the cache's struct. -/
theorem push_store {w W w4 : World} {base h : Nat} {v v4 : Value} {its its4 : List It} {sz lk : Int} {done : Bool} (c : Ca W base h v its sz done lk) (hbase : base ≤ W.heap.size) (ho : kRef.R 158 w4 base (fun _ => True) v4 its4) (hg : W.grownBy w4 v.ownBlock) (hT : TK w W) (hB : Below base w W) :
    w4.heap[h]? = some (.cells #[v, .int .i64 sz, .bool done, .int .i32 lk, .int .u32 0, .pointer none, .int .u16 0] 242 (0, 0)) ∧ Ca (w4.setCell ⟨h, 0, none⟩ v4) base h v4 its4 sz done lk ∧ TK w (w4.setCell ⟨h, 0, none⟩ v4) ∧ Below base w (w4.setCell ⟨h, 0, none⟩ v4) := by
  have hb : w4.heap[h]? = _ := blk_grown c.blk hg (Kd.R_ne c.row c.blk (by decide))
  obtain ⟨inner, hown⟩ := Kd.R_own c.row
  refine ⟨hb, ⟨by simpa using blk_set hb 0 v4, c.ge, Kd.R_set ho hb (by decide) 0 v4⟩, (hT.grown hg (fun k hk => own_typed hown k hk)).set hb 0 v4, ?_⟩
  exact (hB.grown hg hbase (Kd.R_base c.row)).setCell c.ge _

set_option maxHeartbeats 4000000 in
set_option maxRecDepth 100000 in
theorem push_calls (base h : Nat) (v : Value) (its : List It) (sz : Int) (ad : Addr) (c : Nat) (dat : List Int) (ep sq ty : Int) (cl : Bool) (w : World)
    (hC : Ca w base h v its sz false 0) (hbase : base ≤ w.heap.size) (hs : St (Kd.int .u8) w (some ad) dat)
    (hne : ∀ k, k < its.length → ¬ ((its[k]?.getD ⟨0, false, 0, 0, []⟩).ep = ep ∧ (its[k]?.getD ⟨0, false, 0, 0, []⟩).sq = sq ∧ (its[k]?.getD ⟨0, false, 0, 0, []⟩).cl = cl))
    (hcnt : its.length < 1000) (hsz0 : 0 ≤ sz) (hsz : sz + dat.length ≤ 8000000) :
    Calls Tryz.prog 80 #[.pointer (some ⟨h, 0, none⟩), .slice (some ad) dat.length c, .int .u16 ep, .int .u16 sq, .int .u8 ty, .bool cl] w fun e w' =>
      e = .returned .nilIface ∧ (∃ v', Ca w' base h v' (its ++ [⟨ty, cl, ep, sq, dat⟩]) (sz + dat.length) false 0) ∧ TK w w' ∧ Below base w w' := by
  obtain ⟨A, p, rfl, hp, hm⟩ := hC.vform
  have hk := hC.c3
  have hfr := hC.fr 3
  have HC := Aside0.mk hC
  have HNE := Aside0.mk hne
  have HS := Aside0.mk hs
  clear hC hne hs
  go_enter_defers Tryz.func80, Tryz.ntmps80
  go_wp2_with (go_at_call 113; refine (lock_free muLib ⟨h, 3, none⟩ _ hk hfr).mono ?_; rintro e w1 ⟨rfl, hw⟩; have HC1 := Aside0.mk (show Ca w1 base h (.slice A its.length p) its sz false 1 from hw ▸ HC.out.lock 1); have HT1 := Aside0.mk (show TK w w1 from hw ▸ HC.out.tkset (TK.refl w) 3 _); have HB1 := Aside0.mk (show Below base w w1 from hw ▸ (Below.refl base w).setCell HC.out.ge _); clear hw hk hfr; have c0 := HC1.out.c0; have c1 := HC1.out.c1; have c2 := HC1.out.c2)
  have hmm : (its.length : Int) ≤ 9223372036854775807 := by omega
  go_loopg [31] its.length (fun gk v31 w' => ∃ k : Nat, v31 = .int .i64 k ∧ Aside0 (gk = its.length - k) ∧ Aside0 (k ≤ its.length) ∧ w1 = w')
  case atStart => exact ⟨0, rfl, ⟨by omega⟩, ⟨by omega⟩, rfl⟩
  case round =>
    obtain ⟨k, rfl, HG, HK, rfl⟩ := hrel
    by_cases hlt : k < its.length
    · obtain ⟨a, p', dv, hv, hpp, g, hcell, hblk, hbg, hdat⟩ := HC1.out.item k hlt
      injection hv with hA _ hp'
      subst hA
      subst hp'
      have hltb : decide ((k : Int) < (its.length : Int)) = true := decide_eq_true (by omega)
      have i0 : (0 : Int) ≤ (k : Int) := by omega
      have i1 : (k : Int) < (its.length : Int) := by omega
      have g1 := (blk_cell hblk 1).trans rfl
      have g2 := (blk_cell hblk 2).trans rfl
      have g3 := (blk_cell hblk 3).trans rfl
      clear hblk hdat hpp hbg
      have hn := HNE.out k hlt
      rw [List.getElem?_eq_getElem hlt] at hn
      simp only [Option.getD_some] at hn
      generalize its[k] = it at *
      by_cases e1 : it.ep = ep
      · by_cases e2 : it.sq = sq
        · have e3 : (it.cl == cl) = false := by simpa using fun e => hn ⟨e1, e2, e⟩
          have e1' : (it.ep == ep) = true := by simpa using e1
          have e2' : (it.sq == sq) = true := by simpa using e2
          clear e1 e2 hn hlt
          go_wp2
          go_roundg (its.length - (k + 1))
          case measure => have := HG.out; omega
          case rel => exact ⟨k + 1, by go_num, ⟨rfl⟩, ⟨by omega⟩, rfl⟩
        · have e1' : (it.ep == ep) = true := by simpa using e1
          have e2' : (it.sq == sq) = false := by simpa using e2
          clear e1 e2 hn hlt
          go_wp2
          go_roundg (its.length - (k + 1))
          case measure => have := HG.out; omega
          case rel => exact ⟨k + 1, by go_num, ⟨rfl⟩, ⟨by omega⟩, rfl⟩
      · have e1' : (it.ep == ep) = false := by simpa using e1
        clear e1 hn hlt
        go_wp2
        go_roundg (its.length - (k + 1))
        case measure => have := HG.out; omega
        case rel => exact ⟨k + 1, by go_num, ⟨rfl⟩, ⟨by omega⟩, rfl⟩
    · have hltb : decide ((k : Int) < (its.length : Int)) = false := decide_eq_false (by omega)
      have f1 := HC1.out.fr 1
      go_wp2
      obtain ⟨w2, hw2⟩ : ∃ w2, w2 = w1.setCell ⟨h, 1, none⟩ (.int .i64 (sz + (dat.length : Int))) := ⟨_, rfl⟩
      rw [← hw2]
      have HC2 := Aside0.mk (show Ca w2 base h (.slice A its.length p) its (sz + dat.length) false 1 from hw2 ▸ HC1.out.size _)
      have HT2 := Aside0.mk (show TK w w2 from hw2 ▸ HC1.out.tkset HT1.out 1 _)
      have HB2 := Aside0.mk (show Below base w w2 from hw2 ▸ HB1.out.setCell HC1.out.ge _)
      clear hw2 c0 c1 c2 f1 HC1 HT1 HB1 hltb hlt HG HK
      have c0 := HC2.out.c0
      refine wp_region_noPanic ?_
      refine start_ (n := 18) (S := fun w' => w'.cell? ⟨h, 0, none⟩ = some (.slice A its.length p)) (ds := [17]) #[false, false, false, false, false, false, false, false, false, false, false, false, false, false, false, false, false, false] (by kernel_rfl) rfl rfl HC2.out.drew.c0 (fun hHeld => ?_)
      replace HC2 := Aside0.mk HC2.out.drew
      replace HT2 := Aside0.mk HT2.out.drew
      replace HB2 := Aside0.mk HB2.out.drew
      clear c0
      generalize w2.drew = wd at *
      refine pure_ (i := 0) (N := (some 84)) (v := ?_) (a' := ?_) #[true, false, false, false, false, false, false, false, false, false, false, false, false, false, false, false, false, false] rfl rfl (by kernel_rfl) (fun _ _ _ h => h.elim) (Or.inl ⟨by rfl, ?_⟩) ?_ ?_
      rotate_left
      · intro w'
        go_simp
        with_reducible rfl
      rotate_left
      · simp only [Act.put, List.setIfInBounds_toArray, List.set_cons_zero, List.set_cons_succ, i64_w, i32_w]
        rfl
      refine pure_ (i := 1) (N := (some 85)) (v := ?_) (a' := ?_) #[true, true, false, false, false, false, false, false, false, false, false, false, false, false, false, false, false, false] rfl rfl (by kernel_rfl) (fun _ _ _ h => h.elim) (Or.inl ⟨by rfl, ?_⟩) ?_ ?_
      rotate_left
      · intro w'
        go_simp
        with_reducible rfl
      rotate_left
      · simp only [Act.put, List.setIfInBounds_toArray, List.set_cons_zero, List.set_cons_succ, i64_w, i32_w]
        rfl
      refine pure_ (i := 2) (N := (some 86)) (v := ?_) (a' := ?_) #[true, true, true, false, false, false, false, false, false, false, false, false, false, false, false, false, false, false] rfl rfl (by kernel_rfl) (fun _ _ _ h => h.elim) (Or.inl ⟨by rfl, ?_⟩) ?_ ?_
      rotate_left
      · intro w'
        go_simp
        with_reducible rfl
      rotate_left
      · simp only [Act.put, List.setIfInBounds_toArray, List.set_cons_zero, List.set_cons_succ, i64_w, i32_w]
        rfl
      refine pure_ (i := 3) (N := (some 87)) (v := ?_) (a' := ?_) #[true, true, true, true, false, false, false, false, false, false, false, false, false, false, false, false, false, false] rfl rfl (by kernel_rfl) (fun _ _ _ h => h.elim) (Or.inl ⟨by rfl, ?_⟩) ?_ ?_
      rotate_left
      · intro w'
        go_simp
        with_reducible rfl
      rotate_left
      · simp only [Act.put, List.setIfInBounds_toArray, List.set_cons_zero, List.set_cons_succ, i64_w, i32_w]
        rfl
      refine take_ (i := 4) (N := (some 88)) (v := ?_) (a' := ?_) #[true, true, true, true, true, false, false, false, false, false, false, false, false, false, false, false, false, false] rfl rfl (by kernel_rfl) (fun _ _ _ h => h.elim) (Or.inl ⟨by rfl, ?_⟩) hHeld ?_ ?_
      rotate_left
      · intro w' s0
        go_simp
        with_reducible rfl
      rotate_left
      · simp only [Act.put, List.setIfInBounds_toArray, List.set_cons_zero, List.set_cons_succ, i64_w, i32_w]
        rfl
      refine pure_ (i := 5) (N := (some 89)) (v := ?_) (a' := ?_) #[true, true, true, true, true, true, false, false, false, false, false, false, false, false, false, false, false, false] rfl rfl (by kernel_rfl) (fun _ _ _ h => h.elim) (Or.inl ⟨by rfl, ?_⟩) ?_ ?_
      rotate_left
      · intro w'
        go_simp
        with_reducible rfl
      rotate_left
      · simp only [Act.put, List.setIfInBounds_toArray, List.set_cons_zero, List.set_cons_succ, i64_w, i32_w]
        rfl
      refine pure_ (i := 7) (N := (some 91)) (v := ?_) (a' := ?_) #[true, true, true, true, true, true, false, true, false, false, false, false, false, false, false, false, false, false] rfl rfl (by kernel_rfl) (fun _ _ _ h => h.elim) (Or.inl ⟨by rfl, ?_⟩) ?_ ?_
      rotate_left
      · intro w'
        go_simp
        with_reducible rfl
      rotate_left
      · simp only [Act.put, List.setIfInBounds_toArray, List.set_cons_zero, List.set_cons_succ, i64_w, i32_w]
        rfl
      refine pure_ (i := 8) (N := (some 92)) (v := ?_) (a' := ?_) #[true, true, true, true, true, true, false, true, true, false, false, false, false, false, false, false, false, false] rfl rfl (by kernel_rfl) (fun _ _ _ h => h.elim) (Or.inl ⟨by rfl, ?_⟩) ?_ ?_
      rotate_left
      · intro w'
        go_simp
        with_reducible rfl
      rotate_left
      · simp only [Act.put, List.setIfInBounds_toArray, List.set_cons_zero, List.set_cons_succ, i64_w, i32_w]
        rfl
      refine pure_ (i := 9) (N := (some 93)) (v := ?_) (a' := ?_) #[true, true, true, true, true, true, false, true, true, true, false, false, false, false, false, false, false, false] rfl rfl (by kernel_rfl) (fun _ _ _ h => h.elim) (Or.inl ⟨by rfl, ?_⟩) ?_ ?_
      rotate_left
      · intro w'
        go_simp
        with_reducible rfl
      rotate_left
      · simp only [Act.put, List.setIfInBounds_toArray, List.set_cons_zero, List.set_cons_succ, i64_w, i32_w]
        rfl
      refine pure_ (i := 10) (N := (some 94)) (v := ?_) (a' := ?_) #[true, true, true, true, true, true, false, true, true, true, true, false, false, false, false, false, false, false] rfl rfl (by kernel_rfl) (fun _ _ _ h => h.elim) (Or.inl ⟨by rfl, ?_⟩) ?_ ?_
      rotate_left
      · intro w'
        go_simp
        with_reducible rfl
      rotate_left
      · simp only [Act.put, List.setIfInBounds_toArray, List.set_cons_zero, List.set_cons_succ, i64_w, i32_w]
        rfl
      refine one_ (i := 6) (N := (some 90)) #[true, true, true, true, true, true, true, true, true, true, true, false, false, false, false, false, false, false] rfl rfl (by kernel_rfl) (by decide) (fun K hK => ?_)
      refine goes_ Tryz.func115 (by kernel_rfl) rfl #[.slice (some ad) dat.length c] (by rfl) rfl rfl (by simp only [List.map_toArray, List.map_cons, List.map_nil]; rfl) ?_
      refine (clone_calls ad c dat _ ((HS.out.tk HT2.out).now) (by omega)).mono ?_
      rintro e w3 ⟨dv, rfl, hd, hb⟩
      refine ⟨_, rfl, ?_⟩
      have HI := Aside0.mk (push_item HC2.out (Nat.le_trans hbase HB2.out.size) ty cl ep sq hd hb)
      have HC3 := Aside0.mk (HC2.out.below hb)
      have HT3 := Aside0.mk (HT2.out.trans (TK.of_below hb))
      have HB3 := Aside0.mk (HB2.out.trans (Below.mono hb (Nat.le_trans hbase HB2.out.size)))
      obtain ⟨Ad, cd, rfl⟩ := Kd.R_slice hd
      refine hK.out _ _ HC3.out.c0 (fun hHeld3 => ?_)
      clear hK K hd hb hHeld HC2 HT2 HB2
      refine norm_ (a' := ?_) ?_ ?_
      rotate_left
      · simp only [Act.put, List.setIfInBounds_toArray, List.set_cons_zero, List.set_cons_succ]
        rfl
      refine pure_ (i := 11) (N := (some 95)) (v := ?_) (a' := ?_) #[true, true, true, true, true, true, true, true, true, true, true, true, false, false, false, false, false, false] rfl rfl (by kernel_rfl) (fun _ _ _ h => h.elim) (Or.inl ⟨by rfl, ?_⟩) ?_ ?_
      rotate_left
      · intro w'
        go_simp
        with_reducible rfl
      rotate_left
      · simp only [Act.put, List.setIfInBounds_toArray, List.set_cons_zero, List.set_cons_succ, i64_w, i32_w]
        rfl
      refine one_ (i := 12) (N := (some 96)) #[true, true, true, true, true, true, true, true, true, true, true, true, true, false, false, false, false, false] rfl rfl (by kernel_rfl) (by decide) (fun K hK => ?_)
      refine value_ (v := .pointer (some ⟨w3.heap.size, 0, none⟩)) (w1 := w3.alloc (.cells #[.int .u8 ty, .bool cl, .int .u16 ep, .int .u16 sq, .slice Ad dat.length cd] 162)) (by rfl) rfl (by first | (go_simp; done) | (go_simp; rfl)) ?_
      refine hK.out _ _ (HC3.out.alloc _).c0 (fun hHeld4 => ?_)
      clear hK K hHeld3
      refine norm_ (a' := ?_) ?_ ?_
      rotate_left
      · simp only [Act.put, List.setIfInBounds_toArray, List.set_cons_zero, List.set_cons_succ]
        rfl
      refine one_ (i := 13) (N := (some 97)) #[true, true, true, true, true, true, true, true, true, true, true, true, true, true, false, false, false, false] rfl rfl (by kernel_rfl) (by decide) (fun K hK => ?_)
      refine value_ (v := .slice (some ⟨w3.heap.size + 1, 0, none⟩) 1 1) (w1 := (w3.alloc (.cells #[.int .u8 ty, .bool cl, .int .u16 ep, .int .u16 sq, .slice Ad dat.length cd] 162)).alloc (.cells #[.pointer (some ⟨w3.heap.size, 0, none⟩)] 158)) (by rfl) rfl (by first | (go_simp; done) | (go_simp; rfl)) ?_
      refine hK.out _ _ ((HC3.out.alloc _).alloc _).c0 (fun hHeld5 => ?_)
      clear hK K hHeld4
      refine norm_ (a' := ?_) ?_ ?_
      rotate_left
      · simp only [Act.put, List.setIfInBounds_toArray, List.set_cons_zero, List.set_cons_succ]
        rfl
      refine one_ (i := 14) (N := (some 98)) #[true, true, true, true, true, true, true, true, true, true, true, true, true, true, true, false, false, false] rfl rfl (by kernel_rfl) (by decide) (fun K hK => ?_)
      refine Kd.R_append_step kRef (w0 := w) base (by rfl) (.tmp 88) (.tmp 97) 159 158 (.pointer none) 8 (by rfl) Tryz.underlying159 info_pitem rfl (by decide) (by omega) (.slice A its.length p) its ⟨ty, cl, ep, sq, dat⟩ [.pointer (some ⟨w3.heap.size, 0, none⟩)] (fun _ => True) _ (by rfl) (by show Value.slice (some ⟨w3.heap.size + 1, 0, none⟩) 1 1 = _; simp) HI.out (fun k hk => ⟨trivial, hk⟩) (fun _ _ => trivial) (HC3.out.alloc _).row (HB3.out.alloc (Nat.le_trans hbase HB3.out.size) _) (by simp; have := HB3.out.size; omega) (by omega) ?_
      intro v4 w4 ho hb hg hat
      obtain ⟨hb4, hC4, hT4, hB4⟩ := push_store (HC3.out.alloc _) (by simp; have := HB3.out.size; omega) ho hg (HT3.out.alloc _) (HB3.out.alloc (Nat.le_trans hbase HB3.out.size) _)
      obtain ⟨A4, c4, rfl⟩ := Kd.R_slice ho
      have e1 : (its ++ [(⟨ty, cl, ep, sq, dat⟩ : It)]).length = its.length + 1 := by simp
      rw [e1] at hC4 hT4 hB4
      have b40 := (blk_cell hb4 0).trans rfl
      have f40 := blk_frozen hb4 0
      have HC4 := Aside0.mk hC4
      have HT4 := Aside0.mk hT4
      have HB4 := Aside0.mk hB4
      refine hK.out _ _ b40 (fun hHeld6 => ?_)
      clear hK K hHeld5 hC4 hT4 hB4 hb4 ho hb hg hat
      refine norm_ (a' := ?_) ?_ ?_
      rotate_left
      · simp only [Act.put, List.setIfInBounds_toArray, List.set_cons_zero, List.set_cons_succ]
        rfl
      refine pure_ (i := 15) (N := (some 99)) (v := ?_) (a' := ?_) #[true, true, true, true, true, true, true, true, true, true, true, true, true, true, true, true, false, false] rfl rfl (by kernel_rfl) (fun _ _ _ h => h.elim) (Or.inl ⟨by rfl, ?_⟩) ?_ ?_
      rotate_left
      · intro w'
        go_simp
        with_reducible rfl
      rotate_left
      · simp only [Act.put, List.setIfInBounds_toArray, List.set_cons_zero, List.set_cons_succ, i64_w, i32_w]
        rfl
      refine pure_ (i := 16) (N := (some 100)) (v := ?_) (a' := ?_) #[true, true, true, true, true, true, true, true, true, true, true, true, true, true, true, true, true, false] rfl rfl (by kernel_rfl) (fun _ _ _ h => h.elim) (Or.inl ⟨by rfl, ?_⟩) ?_ ?_
      rotate_left
      · intro w'
        go_simp
        with_reducible rfl
      rotate_left
      · simp only [Act.put, List.setIfInBounds_toArray, List.set_cons_zero, List.set_cons_succ, i64_w, i32_w]
        rfl
      refine last_ (i := 17) (N := none) #[true, true, true, true, true, true, true, true, true, true, true, true, true, true, true, true, true, true] rfl rfl (by kernel_rfl) (by decide) (fun K hK => ?_)
      refine skip_ (w1 := ?_) (by rfl) rfl ?_ ?_
      rotate_left
      · go_simp
        rfl
      refine hK.out _ _ ?_
      clear hK K
      refine done_ (by kernel_rfl) ?_
      refine NoPanic.normal ?_
      go_wp2
      refine leaves_cons (f := 114) (args := #[.pointer (some ⟨h, 3, none⟩)]) (by simp) (by simp [go_sem]) ?_
      refine (unlock_deferred muLib ⟨h, 3, none⟩ .returning _ HC4.out.c3 (HC4.out.fr 3)).mono ?_
      rintro e u' w'' ⟨rfl, rfl, rfl⟩
      exact ⟨_, results_tmp rfl _ _ _, rfl, ⟨_, HC4.out.lock 0⟩, HC4.out.tkset HT4.out 3 _, HB4.out.setCell HC4.out.ge _⟩
end Go.Proofs.YtmkbebincjppnaaGreatDoor
