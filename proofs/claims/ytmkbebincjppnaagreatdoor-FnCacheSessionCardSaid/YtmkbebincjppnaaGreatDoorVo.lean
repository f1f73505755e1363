/- Words for the handshake cache in memory: a pointer to a struct as a kind; what stays when only the cache's own blocks change; the cache's state. -/
import Derived.Test.YtmkbebincjppnaaGreatDoorLk
import Derived.Test.YtmkbebincjppnaaGreatDoorWMore
namespace Go.Proofs.YtmkbebincjppnaaGreatDoor
open Go.RowKit Go.Proofs.YtmkbebincjppnaaGreatDoorW.PrintWords Go.Proofs.YtmkbebincjppnaaGreatDoorW.PrintLast Go.Proofs.YtmkbebincjppnaaGreatDoorW.PrintMore
set_option linter.unusedVariables false
set_option linter.unusedSimpArgs false

/-- A pointer to a value that lies alone at the head of a block of type t. -/
def ref {α : Type} (t : Nat) (d : Kd α) : Kd α where
  sz := 1
  E := t :: d.E
  K := fun w x cs => ∃ g cells, cs = [.pointer (some ⟨g, 0, none⟩)] ∧ w.heap[g]? = some (.cells cells t (0, 0)) ∧ d.K w x cells.toList
  M := fun w base ok x cs => ∃ g cells, cs = [.pointer (some ⟨g, 0, none⟩)] ∧ base ≤ g ∧ ok g ∧ w.heap[g]? = some (.cells cells t (0, 0)) ∧ d.M w base ok x cells.toList
  K_len := by
    rintro w x cs ⟨g, cells, rfl, _⟩
    rfl
  K_one := by
    rintro w x cs ⟨g, cells, rfl, _⟩ u hu
    rw [List.mem_singleton.1 hu]
    rfl
  K_below := by
    rintro w w1 x cs hb ⟨g, cells, rfl, hh, hk⟩
    exact ⟨g, cells, rfl, blk_below hh hb, d.K_below hb hk⟩
  K_of_M := by
    rintro w base ok x cs ⟨g, cells, rfl, _, _, hh, hm⟩
    exact ⟨g, cells, rfl, hh, d.K_of_M hm⟩
  M_mono := by
    rintro w base ok ok' x cs hok ⟨g, cells, rfl, hb, ho, hh, hm⟩
    exact ⟨g, cells, rfl, hb, hok g ho, hh, d.M_mono hok hm⟩
  M_bound := by
    rintro w base ok x cs ⟨g, cells, rfl, hb, ho, hh, hm⟩
    refine ⟨g, cells, rfl, hb, ⟨ho, hb, blk_lt hh, t, List.mem_cons_self, cells, hh⟩, hh, d.M_mono ?_ (d.M_bound hm)⟩
    rintro k ⟨h2, h3, h4, q, hq, hc⟩
    exact ⟨h2, h3, h4, q, List.mem_cons_of_mem _ hq, hc⟩
  M_move := by
    rintro w w1 base ok x cs hm ⟨g, cells, rfl, hb, ho, hh, hk⟩
    exact ⟨g, cells, rfl, hb, ho, (hm g ho).trans hh, d.M_move hm hk⟩
  M_lower := by
    rintro w base base' ok x cs hb ⟨g, cells, rfl, h1, ho, hh, hk⟩
    exact ⟨g, cells, rfl, Nat.le_trans hb h1, ho, hh, d.M_lower hb hk⟩

/-- What the cache keeps of a message. -/
structure It where
  ty : Int
  cl : Bool
  ep : Int
  sq : Int
  dat : List Int
def kIt : Kd It := Kd.iso (Kd.pair (Kd.int .u8) (Kd.pair Kd.bool (Kd.pair (Kd.int .u16) (Kd.pair (Kd.int .u16) (Kd.slice 5 (Kd.int .u8)))))) (fun x : It => (x.ty, x.cl, x.ep, x.sq, x.dat))
theorem kIt_openM {w : World} {base : Nat} {ok : Nat → Prop} {x : It} {cs : List Value} (h : kIt.M w base ok x cs) : ∃ v, cs = [.int .u8 x.ty, .bool x.cl, .int .u16 x.ep, .int .u16 x.sq, v] ∧ (Kd.int .u8).R 5 w base ok v x.dat := by
  obtain ⟨_, _, rfl, rfl, ⟨_, _, rfl, rfl, ⟨_, _, rfl, rfl, ⟨_, _, rfl, rfl, ⟨v, rfl, hr⟩⟩⟩⟩⟩ := h
  exact ⟨v, rfl, hr⟩
theorem kIt_mkM {w : World} {base : Nat} {ok : Nat → Prop} {v : Value} (x : It) (h : (Kd.int .u8).R 5 w base ok v x.dat) : kIt.M w base ok x [.int .u8 x.ty, .bool x.cl, .int .u16 x.ep, .int .u16 x.sq, v] :=
  ⟨[.int .u8 x.ty], [.bool x.cl, .int .u16 x.ep, .int .u16 x.sq, v], rfl, rfl, [.bool x.cl], [.int .u16 x.ep, .int .u16 x.sq, v], rfl, rfl, [.int .u16 x.ep], [.int .u16 x.sq, v], rfl, rfl, [.int .u16 x.sq], [v], rfl, rfl, v, rfl, h⟩
def kRef : Kd It := ref 162 kIt

/-- What may have turned: the cache's own struct, its row of pointers, and what is new. -/
structure TK (w w' : World) : Prop where
  os : w'.os = w.os
  tape : w'.tape = w.tape
  output : w'.output = w.output
  size : w.heap.size ≤ w'.heap.size
  blk : ∀ i, i < w.heap.size → (∀ cs fr, w.heap[i]? ≠ some (.cells cs 242 fr) ∧ w.heap[i]? ≠ some (.cells cs 158 fr)) → w'.heap[i]? = w.heap[i]?
theorem TK.refl (w : World) : TK w w := ⟨rfl, rfl, rfl, Nat.le_refl _, fun _ _ _ => rfl⟩
theorem TK.trans {a b c : World} (h : TK a b) (k : TK b c) : TK a c :=
  ⟨k.os.trans h.os, k.tape.trans h.tape, k.output.trans h.output, Nat.le_trans h.size k.size, fun i hi hn => by
    have h1 := h.blk i hi hn
    rw [← h1]
    exact k.blk i (Nat.lt_of_lt_of_le hi h.size) (by rw [h1]; exact hn)⟩
theorem TK.of_below {w w' : World} (h : Below w.heap.size w w') : TK w w' := ⟨h.os, h.tape, h.output, h.size, fun i hi _ => h.block i hi⟩
theorem TK.alloc {w W : World} (h : TK w W) (o : Obj) : TK w (W.alloc o) := h.trans (TK.of_below (below_alloc (Below.refl _ _) o))
theorem TK.drew {w W : World} (h : TK w W) : TK w W.drew := h.trans (TK.of_below (below_drew (Below.refl _ _)))
theorem TK.drewN {w W : World} (h : TK w W) (n : Nat) : TK w (W.drewN n) := h.trans (TK.of_below (pw_below_drewN (Below.refl _ _) n))
/-- A store into the cache's struct. -/
theorem TK.set {w W : World} (h : TK w W) {g : Nat} {cs : Array Value} {fr : Nat × Nat} (hb : W.heap[g]? = some (.cells cs 242 fr)) (j : Nat) (u : Value) : TK w (W.setCell ⟨g, j, none⟩ u) :=
  h.trans ⟨rfl, rfl, rfl, by simp [World.setCell], fun i hi hn => Below.heap_setCell W ⟨g, j, none⟩ u i (fun e => by
    have e' : i = g := e
    subst e'
    exact (hn cs fr).1 hb)⟩
/-- A row of pointers to messages was appended to. -/
theorem TK.grown {w W W1 : World} (h : TK w W) {v : Value} (hg : W.grownBy W1 v.ownBlock) (ht : ∀ k, v.ownBlock = some k → ∃ cells, W.heap[k]? = some (.cells cells 158 (0, 0))) : TK w W1 :=
  h.trans ⟨hg.os, hg.tape, hg.output, hg.size, fun i hi hn => hg.block i hi (fun e => by
    obtain ⟨cells, hc⟩ := ht i e.symm
    exact (hn cells (0, 0)).2 hc)⟩
/-- A block of another type stays. -/
theorem TK.keep {w W : World} (h : TK w W) {g t : Nat} {cs : Array Value} {fr : Nat × Nat} (hb : w.heap[g]? = some (.cells cs t fr)) (h1 : t ≠ 242) (h2 : t ≠ 158) : W.heap[g]? = some (.cells cs t fr) := by
  rw [← hb]
  refine h.blk g (blk_lt hb) (fun cs' fr' => ⟨fun e => ?_, fun e => ?_⟩) <;> rw [hb] at e <;> injection e with e <;> injection e with _ e
  · exact h1 e
  · exact h2 e

section
variable {α : Type} {d : Kd α} {e base : Nat} {w W : World} {ok : Nat → Prop} {v : Value} {xs : List α}
theorem bad_of {q t : Nat} {w : World} {k : Nat} {cells : Array Value} (hc : w.heap[k]? = some (.cells cells q (0, 0))) (h1 : q ≠ 242) (h2 : q ≠ 158) : ∀ cs fr, w.heap[k]? ≠ some (.cells cs 242 fr) ∧ w.heap[k]? ≠ some (.cells cs 158 fr) := by
  intro cs fr
  constructor <;> intro e <;> rw [hc] at e <;> injection e with e <;> injection e with _ e
  · exact h1 e
  · exact h2 e
/-- What one owns of other types stays. -/
theorem R_tk (h : d.R e w base ok v xs) (hk : TK w W) (ht : ∀ q, q ∈ e :: d.E → q ≠ 242 ∧ q ≠ 158) : d.R e W base ok v xs :=
  Kd.R_mono (Kd.R_move (Kd.R_bound h) (fun k ⟨_, _, hlt, q, hq, cells, hc⟩ => hk.blk k hlt (bad_of (t := 0) hc (ht q hq).1 (ht q hq).2))) (fun _ hk => hk.1)
theorem M_tk {x : α} {cs : List Value} (h : d.M w base ok x cs) (hk : TK w W) (ht : ∀ q, q ∈ d.E → q ≠ 242 ∧ q ≠ 158) : d.M W base ok x cs :=
  d.M_mono (fun _ hk => hk.1) (d.M_move (fun k ⟨_, _, hlt, q, hq, cells, hc⟩ => hk.blk k hlt (bad_of (t := 0) hc (ht q hq).1 (ht q hq).2)) (d.M_bound h))
end

/-- A row that reads as xs, whatever happens to the cache. -/
def St {α : Type} (d : Kd α) (w : World) (A : Option Addr) (xs : List α) : Prop := ∀ W, TK w W → d.C W A xs.length xs
theorem St.now {α : Type} {d : Kd α} {w : World} {A : Option Addr} {xs : List α} (h : St d w A xs) : d.C w A xs.length xs := h w (TK.refl w)
theorem St.tk {α : Type} {d : Kd α} {w W : World} {A : Option Addr} {xs : List α} (h : St d w A xs) (hk : TK w W) : St d W A xs := fun W' hk' => h W' (hk.trans hk')
theorem St.of_R {α : Type} {d : Kd α} {w : World} {A : Option Addr} {c e base : Nat} {ok : Nat → Prop} {xs : List α} (h : d.R e w base ok (.slice A xs.length c) xs) (ht : ∀ q, q ∈ e :: d.E → q ≠ 242 ∧ q ≠ 158) : St d w A xs :=
  fun W hk => (Kd.R_reads' (R_tk h hk ht)).2.2
/-- The bytes of a string that was converted. -/
theorem St.of_bytes (W : World) (s : ByteArray) (hs : s.size ≤ 9223372036854775807) : St (Kd.int .u8) (Lib.bytesWorld W 5 s) (some ⟨W.heap.size, 0, none⟩) (bytesOf s) := by
  intro W' hk
  have hb : W'.heap[W.heap.size]? = some (.cells (Lib.bytesCells W 5 s) 5 ((Lib.bytesCells W 5 s).size, (Lib.bytesCells W 5 s).size + 1)) :=
    hk.keep (Lib.bytesWorld_at_new W 5 s) (by decide) (by decide)
  have h0 := bytes_reads W 5 s hs
  refine Kd.C_of_reads (d := (0 : Int)) (h1 := fun _ => rfl) ⟨rfl, by rw [bytesOf_length]; exact hs, fun hp => ⟨_, rfl, fun j hj => ?_⟩⟩
  rw [bytesOf_length] at hp hj
  obtain ⟨ad, e1, hc⟩ := h0.2.2 hp
  injection e1 with e1
  subst e1
  rw [add_plain]
  have h2 := hc j hj
  rw [add_plain] at h2
  exact (World.cell?_of_block (w := Lib.bytesWorld W 5 s) (w' := W') (a := ⟨W.heap.size, j, none⟩) (by rw [hb]; exact (Lib.bytesWorld_at_new W 5 s).symm)).trans h2

/-- The cache at block h: its messages, their size, whether it is finished, its lock. -/
structure Ca (w : World) (base h : Nat) (v : Value) (its : List It) (sz : Int) (done : Bool) (lk : Int) : Prop where
  blk : w.heap[h]? = some (.cells #[v, .int .i64 sz, .bool done, .int .i32 lk, .int .u32 0, .pointer none, .int .u16 0] 242 (0, 0))
  ge : base ≤ h
  row : kRef.R 158 w base (fun _ => True) v its
section
variable {w W : World} {base h : Nat} {v : Value} {its : List It} {sz : Int} {done : Bool} {lk : Int}
theorem Ca.below (c : Ca w base h v its sz done lk) (hb : Below w.heap.size w W) : Ca W base h v its sz done lk := ⟨blk_below c.blk hb, c.ge, Kd.R_below c.row hb⟩
theorem Ca.alloc (c : Ca w base h v its sz done lk) (o : Obj) : Ca (w.alloc o) base h v its sz done lk := c.below (below_alloc (Below.refl _ _) o)
theorem Ca.drew (c : Ca w base h v its sz done lk) : Ca w.drew base h v its sz done lk := c.below (below_drew (Below.refl _ _))
theorem Ca.drewN (c : Ca w base h v its sz done lk) (n : Nat) : Ca (w.drewN n) base h v its sz done lk := c.below (pw_below_drewN (Below.refl _ _) n)
theorem Ca.rowset (c : Ca w base h v its sz done lk) (j : Nat) (u : Value) : kRef.R 158 (w.setCell ⟨h, j, none⟩ u) base (fun _ => True) v its := Kd.R_set c.row c.blk (by decide) j u
theorem Ca.lock (c : Ca w base h v its sz done lk) (l : Int) : Ca (w.setCell ⟨h, 3, none⟩ (.int .i32 l)) base h v its sz done l := ⟨by simpa using blk_set c.blk 3 (.int .i32 l), c.ge, c.rowset 3 _⟩
theorem Ca.size (c : Ca w base h v its sz done lk) (s : Int) : Ca (w.setCell ⟨h, 1, none⟩ (.int .i64 s)) base h v its s done lk := ⟨by simpa using blk_set c.blk 1 (.int .i64 s), c.ge, c.rowset 1 _⟩
theorem Ca.finish (c : Ca w base h v its sz done lk) (b : Bool) : Ca (w.setCell ⟨h, 2, none⟩ (.bool b)) base h v its sz b lk := ⟨by simpa using blk_set c.blk 2 (.bool b), c.ge, c.rowset 2 _⟩
theorem Ca.noptr (c : Ca w base h v its sz done lk) : Ca (w.setCell ⟨h, 5, none⟩ (.pointer none)) base h v its sz done lk := ⟨by simpa using blk_set c.blk 5 (.pointer none), c.ge, c.rowset 5 _⟩
theorem Ca.c0 (c : Ca w base h v its sz done lk) : w.cell? ⟨h, 0, none⟩ = some v := (blk_cell c.blk 0).trans rfl
theorem Ca.c1 (c : Ca w base h v its sz done lk) : w.cell? ⟨h, 1, none⟩ = some (.int .i64 sz) := (blk_cell c.blk 1).trans rfl
theorem Ca.c2 (c : Ca w base h v its sz done lk) : w.cell? ⟨h, 2, none⟩ = some (.bool done) := (blk_cell c.blk 2).trans rfl
theorem Ca.c3 (c : Ca w base h v its sz done lk) : w.cell? ⟨h, 3, none⟩ = some (.int .i32 lk) := (blk_cell c.blk 3).trans rfl
theorem Ca.c5 (c : Ca w base h v its sz done lk) : w.cell? ⟨h, 5, none⟩ = some (.pointer none) := (blk_cell c.blk 5).trans rfl
theorem Ca.fr (c : Ca w base h v its sz done lk) (j : Nat) : w.frozen? ⟨h, j, none⟩ = false := blk_frozen c.blk j
theorem Ca.tkset (c : Ca w base h v its sz done lk) {w0 : World} (k : TK w0 w) (j : Nat) (u : Value) : TK w0 (w.setCell ⟨h, j, none⟩ u) := k.set c.blk j u
/-- Message k: its pointer, its cells, its bytes. -/
theorem Ca.item (c : Ca w base h v its sz done lk) (k : Nat) (hk : k < its.length) : ∃ a p dv, v = .slice (some ⟨a, 0, none⟩) its.length p ∧ its.length ≤ p ∧ ∃ g, w.cell? ⟨a, k, none⟩ = some (.pointer (some ⟨g, 0, none⟩)) ∧
    w.heap[g]? = some (.cells #[.int .u8 its[k].ty, .bool its[k].cl, .int .u16 its[k].ep, .int .u16 its[k].sq, dv] 162 (0, 0)) ∧ base ≤ g ∧ (Kd.int .u8).R 5 w base (fun _ => True) dv its[k].dat := by
  obtain ⟨a, p, rfl, hb, hlt, cells, hcell⟩ := Kd.R_form c.row (by omega)
  obtain ⟨hn, hp, _⟩ := Kd.R_reads' c.row
  obtain ⟨_, inner, ho, hr⟩ := c.row
  have h2 := hr.2 k _ (List.getElem?_eq_getElem hk)
  obtain ⟨g, cs, he, hbg, _, hh, hm⟩ := h2
  obtain ⟨dv, hcs, hd⟩ := kIt_openM hm
  have hin : inner[k]? = some (.pointer (some ⟨g, 0, none⟩)) := by
    have h3 : (inner.drop (k * 1)).take 1 = [.pointer (some ⟨g, 0, none⟩)] := he
    rw [Nat.mul_one] at h3
    have h4 := congrArg (fun l => l[0]?) h3
    simpa [List.getElem?_take, List.getElem?_drop] using h4
  refine ⟨a, p, dv, rfl, hp, g, ?_, ?_, hbg, Kd.R_mono hd (fun _ _ => trivial)⟩
  · have h5 := ho.cells (g := a) rfl k _ hin
    rwa [add_plain] at h5
  · rw [hh]
    obtain ⟨l⟩ := cs
    simp at hcs
    rw [hcs]
theorem Ca.vform (c : Ca w base h v its sz done lk) : ∃ A p, v = .slice A its.length p ∧ its.length ≤ p ∧ its.length ≤ 9223372036854775807 := by
  obtain ⟨A, p, hv, hl, hc⟩ := Kd.R_reads c.row
  exact ⟨A, p, hv, hl, hc.2.1⟩
end
end Go.Proofs.YtmkbebincjppnaaGreatDoor
