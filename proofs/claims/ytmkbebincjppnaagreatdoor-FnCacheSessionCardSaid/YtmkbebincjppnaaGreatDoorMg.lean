/- The cache's small ones: a push behind the end, the end, a new cache, a merge. -/
import Derived.Test.YtmkbebincjppnaaGreatDoorPl
namespace Go.Proofs.YtmkbebincjppnaaGreatDoor
open Go.RowKit Go.MuLone Go.Proofs.YtmkbebincjppnaaGreatDoorW.PrintWords Go.Proofs.YtmkbebincjppnaaGreatDoorW.PrintLast Go.Proofs.YtmkbebincjppnaaGreatDoorW.PrintMore Go.Proofs.YtmkbebincjppnaaGreatDoor.PLib
set_option linter.unusedVariables false
set_option linter.unusedSimpArgs false

def datOf (its : List It) : Option Nat → List Int
  | none => []
  | some k => (its[k]?.getD ⟨0, false, 0, 0, []⟩).dat
def mergeTo (its : List It) (rs : List Rl) : Nat → List Int
  | 0 => []
  | i + 1 => mergeTo its rs i ++ datOf its (pick its (rs.getD i z96))
theorem datOf_le {its : List It} {m : Nat} (hd : ∀ x, x ∈ its → x.dat.length ≤ m) (p : Option Nat) : (datOf its p).length ≤ m := by
  cases p with
  | none => simp [datOf]
  | some k =>
    simp only [datOf]
    by_cases hk : k < its.length
    · rw [List.getElem?_eq_getElem hk]
      exact hd _ (List.getElem_mem hk)
    · rw [List.getElem?_eq_none (by omega)]
      simp
theorem mergeTo_le {its : List It} {m : Nat} (hd : ∀ x, x ∈ its → x.dat.length ≤ m) (rs : List Rl) : ∀ i, (mergeTo its rs i).length ≤ i * m
  | 0 => by simp [mergeTo]
  | i + 1 => by
    have h1 := mergeTo_le hd rs i
    have h2 := datOf_le hd (pick its (rs.getD i z96))
    rw [mergeTo, List.length_append, Nat.add_mul]
    omega

set_option maxHeartbeats 4000000 in
set_option maxRecDepth 100000 in
/-- A finished cache keeps nothing new. -/
theorem push_done (base h : Nat) (v : Value) (its : List It) (sz : Int) (A : Option Addr) (n c : Nat) (ep sq ty : Int) (cl : Bool) (w : World)
    (hC : Ca w base h v its sz true 0) :
    Calls Tryz.prog 80 #[.pointer (some ⟨h, 0, none⟩), .slice A n c, .int .u16 ep, .int .u16 sq, .int .u8 ty, .bool cl] w fun e w' =>
      e = .returned .nilIface ∧ Below w.heap.size w w' := by
  have hk := hC.c3
  have hfr := hC.fr 3
  have HC := Aside0.mk hC
  clear hC
  go_enter_defers Tryz.func80, Tryz.ntmps80
  go_wp2_with (go_at_call 113; refine (lock_free muLib ⟨h, 3, none⟩ _ hk hfr).mono ?_; rintro e w1 ⟨rfl, hw⟩; have HC1 := Aside0.mk (show Ca w1 base h v its sz true 1 from hw ▸ HC.out.lock 1); have HL := Aside0.mk (show Lkd w w1 h from hw ▸ Lkd.of w h _); clear hw hk hfr; have c2 := HC1.out.c2)
  refine leaves_cons (f := 114) (args := #[.pointer (some ⟨h, 3, none⟩)]) (by simp) (by simp [go_sem]) ?_
  refine (unlock_deferred muLib ⟨h, 3, none⟩ .returning _ HC1.out.c3 (HC1.out.fr 3)).mono ?_
  rintro e u' w'' ⟨rfl, rfl, rfl⟩
  exact ⟨_, results_tmp rfl _ _ _, rfl, HL.out.undo HC.out HC1.out (Below.refl _ _)⟩

set_option maxHeartbeats 4000000 in
set_option maxRecDepth 100000 in
theorem finish_calls (base h : Nat) (v : Value) (its : List It) (sz : Int) (done : Bool) (w : World)
    (hC : Ca w base h v its sz done 0) :
    Calls Tryz.prog 81 #[.pointer (some ⟨h, 0, none⟩)] w fun e w' =>
      e = .returned (.tuple #[]) ∧ Ca w' base h v its sz true 0 ∧ TK w w' ∧ Below base w w' := by
  have hk := hC.c3
  have hfr := hC.fr 3
  have HC := Aside0.mk hC
  clear hC
  go_enter_defers Tryz.func81, Tryz.ntmps81
  go_upto_region 2 with (go_at_call 113; refine (lock_free muLib ⟨h, 3, none⟩ _ hk hfr).mono ?_; rintro e w1 ⟨rfl, hw⟩; have HC1 := Aside0.mk (show Ca w1 base h v its sz done 1 from hw ▸ HC.out.lock 1); have HT1 := Aside0.mk (show TK w w1 from hw ▸ HC.out.tkset (TK.refl w) 3 _); have HB1 := Aside0.mk (show Below base w w1 from hw ▸ (Below.refl base w).setCell HC.out.ge _); clear hw hk hfr; have c2 := HC1.out.c2)
  have f2 := HC1.out.fr 2
  have c5 := HC1.out.c5
  have f5 := HC1.out.fr 5
  go_wp2
  refine leaves_cons (f := 114) (args := #[.pointer (some ⟨h, 3, none⟩)]) (by simp) (by simp [go_sem]) ?_
  have HC2 := Aside0.mk ((HC1.out.finish true).noptr)
  have HT2 := Aside0.mk ((HC1.out.finish true).tkset (HC1.out.tkset HT1.out 2 (.bool true)) 5 (.pointer none))
  have HB2 := Aside0.mk (show Below base w ((w1.setCell ⟨h, 2, none⟩ (.bool true)).setCell ⟨h, 5, none⟩ (.pointer none)) from (HB1.out.setCell HC1.out.ge _).setCell HC1.out.ge _)
  refine (unlock_deferred muLib ⟨h, 3, none⟩ .returning _ HC2.out.c3 (HC2.out.fr 3)).mono ?_
  rintro e u' w'' ⟨rfl, rfl, rfl⟩
  exact ⟨_, results_none rfl _ _ _, rfl, HC2.out.lock 0, HC2.out.tkset HT2.out 3 _, HB2.out.setCell HC2.out.ge _⟩

set_option maxHeartbeats 4000000 in
set_option maxRecDepth 100000 in
theorem merge_calls (base h : Nat) (v : Value) (its : List It) (sz : Int) (done : Bool) (Ar : Option Addr) (cr : Nat) (rs : List Rl) (w : World)
    (hC : Ca w base h v its sz done 0) (hbase : base ≤ w.heap.size) (hr : St kRl w Ar rs) (hn : rs.length < 1000000) (hits : its.length < 1000000) (hd : ∀ x, x ∈ its → x.dat.length ≤ 2000) :
    Calls Tryz.prog 84 #[.pointer (some ⟨h, 0, none⟩), .slice Ar rs.length cr] w fun e w' =>
      ∃ v', e = .returned v' ∧ (Kd.int .u8).R 5 w' w.heap.size (fun _ => True) v' (mergeTo its rs rs.length) ∧ Below w.heap.size w w' := by
  have HC := Aside0.mk hC
  have HR := Aside0.mk hr
  have HD := Aside0.mk hd
  clear hC hr hd
  go_enter Tryz.func84, Tryz.ntmps84
  go_wp2_with (first
    | ((with_reducible refine gate_dst (N := 8) rfl ?_); refine Kd.R_lit (Kd.int .u8) (w0 := w) w.heap.size 5 rfl (N := 8) rfl (xs := []) (inner := []) (ok := fun _ => True) (okp := fun _ => False) ?hr (Reps.none _ _) (fun _ hk => hk.elim) trivial ?hb ?hs (by simp) ?_; (case hr => first | (go_simp; done) | (go_simp; rfl)); (case hb => exact Below.refl _ _); (case hs => exact Nat.le_refl _); intro v1 w1 ho hb hg hat; have HO := Aside0.mk ho; have HB1 := Aside0.mk hb; clear ho hb hg hat)
    | (go_at_call 83; refine (pull_calls base h v its sz done Ar cr rs _ (HC.out.below HB1.out) (Nat.le_trans hbase HB1.out.size) (HR.out.tk (TK.of_below HB1.out)) hn hits).mono ?_; rintro e w2 ⟨o, P, rfl, hb, ho, hp⟩; have HO2 := Aside0.mk (Kd.R_below HO.out hb); have HB2 := Aside0.mk (HB1.out.trans (Below.mono hb HB1.out.size)); have HOO := Aside0.mk ho; have HPP := Aside0.mk (hp w HC.out HB1.out); clear hb ho hp HO HB1))
  go_loopg [5, 13] rs.length (fun gk v5 v13 w' => ∃ i : Nat, v13 = .int .i64 i ∧ Aside0 (gk = rs.length - i) ∧ Aside0 (i ≤ rs.length) ∧ Aside0 (Below w.heap.size w w') ∧ Aside0 ((Kd.int .u8).R 5 w' w.heap.size (fun _ => True) v5 (mergeTo its rs i)) ∧
    Aside0 (w'.heap[o]? = some (.cells (outs P rs.length (fun j => pick its (rs.getD j z96))) 158 (0, 0))))
  case atStart => exact ⟨0, rfl, ⟨by omega⟩, ⟨by omega⟩, HB2, HO2, HOO⟩
  case round =>
    obtain ⟨i, rfl, HG, HI, HB3, HO3, HOO3⟩ := hrel
    by_cases hlt : i < rs.length
    · have hltb : decide ((i : Int) < (rs.length : Int)) = true := decide_eq_true (by omega)
      have i0 : (0 : Int) ≤ (i : Int) := by omega
      have i1 : (i : Int) < (rs.length : Int) := by omega
      have co : wr.cell? ⟨o, i, none⟩ = some (ptrOf P (pick its (rs.getD i z96))) := (blk_cell HOO3.out i).trans (outs_at P rs.length _ i hlt)
      have hstep : mergeTo its rs (i + 1) = mergeTo its rs i ++ datOf its (pick its (rs.getD i z96)) := rfl
      have hml := mergeTo_le HD.out rs i
      cases hpk : pick its (rs.getD i z96) with
      | none =>
        rw [hpk] at co hstep
        simp only [ptrOf] at co
        simp only [datOf, List.append_nil] at hstep
        have HST := Aside0.mk hstep
        clear hstep hml
        go_wp2
        go_roundg (rs.length - (i + 1))
        case measure => have := HG.out; omega
        case rel => exact ⟨i + 1, by go_num, ⟨rfl⟩, ⟨by omega⟩, HB3, ⟨by rw [HST.out]; exact HO3.out⟩, HOO3⟩
      | some j =>
        rw [hpk] at co hstep
        simp only [ptrOf] at co
        have hjl := (pickTo_lt its _ _ j hpk).2
        obtain ⟨dv, hbj, hdj⟩ := HPP.out j hjl
        have hdl := HD.out _ (List.getElem_mem hjl)
        simp only [datOf] at hstep
        rw [List.getElem?_eq_getElem hjl, Option.getD_some] at hstep
        obtain ⟨dA, dc, rfl⟩ := Kd.R_slice hdj
        have s4 := (blk_cell (blk_below hbj HB3.out) 4).trans rfl
        have HDJ := Aside0.mk ((Kd.R_reads' (Kd.R_below hdj HB3.out)).2.2)
        have HST := Aside0.mk hstep
        have hll : ((mergeTo its rs i).length + its[j].dat.length) * 1 ≤ 140737488355328 := by
          have : i * 2000 ≤ 1000000 * 2000 := Nat.mul_le_mul_right _ (by omega)
          omega
        have HLL := Aside0.mk hll
        clear hstep hml hbj hdj hdl hll
        generalize its[j] = itj at *
        go_wp2_with ((with_reducible refine gate_dst (N := 24) rfl ?_); refine Kd.R_append_row (Value.int .u8) (0 : Int) (h1 := fun _ => rfl) (w0 := w) w.heap.size rfl (.tmp 19) (.tmp 23) 48 5 (.int .u8 0) 1 rfl Tryz.underlying48 info_u8 rfl (by omega) u5 (mergeTo its rs i) itj.dat dA itj.dat.length dc (fun _ => True) rfl rfl (fun _ _ => trivial) HO3.out HDJ.out HB3.out HB3.out.size HLL.out ?_; intro v2 w3 ho hb hg hat; have HO4 := Aside0.mk ho; have HB4 := Aside0.mk hb; have HOO4 := Aside0.mk (blk_grown HOO3.out hg (Kd.R_ne HO3.out HOO3.out (by decide))); clear ho hb hg hat)
        go_roundg (rs.length - (i + 1))
        case measure => have := HG.out; omega
        case rel => exact ⟨i + 1, by go_num, ⟨rfl⟩, ⟨by omega⟩, HB4, ⟨by rw [HST.out]; exact HO4.out⟩, HOO4⟩
    · have hltb : decide ((i : Int) < (rs.length : Int)) = false := decide_eq_false (by omega)
      have hil : i = rs.length := by have := HI.out; omega
      subst hil
      go_wp2
      go_ret
      exact ⟨_, rfl, HO3.out, HB3.out⟩
end Go.Proofs.YtmkbebincjppnaaGreatDoor
