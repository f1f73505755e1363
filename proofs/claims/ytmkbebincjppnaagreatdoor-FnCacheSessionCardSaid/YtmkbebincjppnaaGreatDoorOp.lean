/- The laws' arguments: rows of messages and of rules, out of the reading. -/
import Derived.Test.YtmkbebincjppnaaGreatDoorPf
import Derived.Deep.Fields
import Derived.Deep.Slices
import Derived.ChangeShapes
import Derived.ChangeMaps5
namespace Go.Proofs.YtmkbebincjppnaaGreatDoor
open Go.ChangeShapes Go.WideShapes Go.RowKit Go.Deep Go.Proofs.YtmkbebincjppnaaGreatDoorW.PrintWords Go.Proofs.YtmkbebincjppnaaGreatDoorW.PrintLast Go.Proofs.YtmkbebincjppnaaGreatDoorW.PrintMore Go.Proofs.YtmkbebincjppnaaGreatDoor.PLib
set_option linter.unusedVariables false
set_option linter.unusedSimpArgs false

section
variable {H : Type} {enc : TypeId × Value → H} {P : Program} {w : World} {base : Nat} {spare : Nat → Bool} {held : Bool}
/-- A slice of structs whose fields have one cell each. -/
theorem rows_open {t e : TypeId} {fs : Array Field} {fuel : Nat} {cs : List Value} {x : DataW H × List MemPlace} (ht : P.underlying t = some (.slice e)) (he : P.underlying e = some (.struct fs))
    (hone : oneCellFields P fs = true) (hC : P.cellsOf e = fs.size) (h : DataW.trod enc P w base spare held fuel t cs = some x) :
    cs = [.slice none 0 0] ∨
    ∃ (a : Addr) (len cap : Nat), cs = [.slice (some a) len cap] ∧ len ≤ cap ∧ cap ≤ maxLen ∧
      ∀ i, i < len → ∀ (j : Nat) (f : Field), fs[j]? = some f → ∃ (v : Value) (y : DataW H × List MemPlace) (n : Nat), w.cell? (a.add (i * fs.size + j)) = some v ∧ DataW.trod enc P w base spare held n f.type [v] = some y := by
  rcases open_slice ht h with h0 | ⟨a, len, cap, m, n, D, Pl, hcs, hb, hl, hm, hmm, hx, hi⟩
  · exact .inl h0.1
  · refine .inr ⟨a, len, cap, hcs, hl, hm, fun i him j f hj => ?_⟩
    have him' : i < m := by rw [hmm]; split <;> omega
    obtain ⟨cs', hc, ht'⟩ := hi i him'
    rw [hC] at hc
    obtain ⟨ys, n', hn', hy, hlen, hyl, hf⟩ := DataW.trod_struct he ht'
    obtain ⟨_, hcl, hat⟩ := World.cells?_some hc
    obtain ⟨ho, hk⟩ := hone_of hone j f hj
    have hjl : j < fs.size := (Array.getElem?_eq_some_iff.1 hj).1
    have hcell := hat j hjl
    have hv : cs'[j]? = some (cs'[j]'(by omega)) := List.getElem?_eq_getElem (by omega)
    have h1 := hf j f hj
    rw [ho, hk] at h1
    have hone' : (cs'.drop j).take 1 = [cs'[j]'(by omega)] := by
      rw [List.drop_eq_getElem_cons (by omega)]
      rfl
    rw [hone'] at h1
    have hys : ys[j]? = some (ys[j]'(by omega)) := List.getElem?_eq_getElem (by omega)
    refine ⟨_, _, _, ?_, h1.trans hys⟩
    rw [← Go.Deep.add_add, hcell, hv]
/-- Rows of anything that is there at each place. -/
theorem list_of {α : Type} (Q : Nat → α → Prop) : ∀ n, (∀ i, i < n → ∃ x, Q i x) → ∃ l : List α, l.length = n ∧ ∀ i x, l[i]? = some x → Q i x
  | 0, _ => ⟨[], rfl, fun i x h => by simp at h⟩
  | n + 1, h => by
    obtain ⟨l, hl, hq⟩ := list_of Q n (fun i hi => h i (by omega))
    obtain ⟨x, hx⟩ := h n (by omega)
    refine ⟨l ++ [x], by simp [hl], fun i y hy => ?_⟩
    by_cases hi : i < l.length
    · rw [List.getElem?_append_left hi] at hy
      exact hq i y hy
    · rw [List.getElem?_append_right (by omega)] at hy
      have : i - l.length = 0 := by
        have := (List.getElem?_eq_some_iff.1 hy).1
        simp at this
        omega
      rw [this] at hy
      simp at hy
      subst hy
      have : i = n := by omega
      subst this
      exact hx
end
section
variable {H : Type} {enc : TypeId × Value → H} {w : World} {base : Nat} {spare : Nat → Bool} {held : Bool}
theorem cell_u8 {v : Value} {n : Nat} {y : DataW H × List MemPlace} (h : DataW.trod enc Tryz.prog w base spare held n 5 [v] = some y) : ∃ k, v = .int .u8 k := by
  obtain ⟨k, e1, _⟩ := DataW.trod_int Tryz.underlying5 h
  exact ⟨k, by simpa using e1⟩
theorem cell_u16 {v : Value} {n : Nat} {y : DataW H × List MemPlace} (h : DataW.trod enc Tryz.prog w base spare held n 27 [v] = some y) : ∃ k, v = .int .u16 k := by
  obtain ⟨k, e1, _⟩ := DataW.trod_int Tryz.underlying27 h
  exact ⟨k, by simpa using e1⟩
theorem cell_bool {v : Value} {n : Nat} {y : DataW H × List MemPlace} (h : DataW.trod enc Tryz.prog w base spare held n 4 [v] = some y) : ∃ k, v = .bool k := by
  obtain ⟨k, e1, _⟩ := DataW.trod_bool Tryz.underlying4 h
  exact ⟨k, by simpa using e1⟩
theorem cell_string {v : Value} {n : Nat} {y : DataW H × List MemPlace} (h : DataW.trod enc Tryz.prog w base spare held n 9 [v] = some y) : ∃ k, v = .string k := by
  obtain ⟨k, e1, _⟩ := DataW.trod_string Tryz.underlying9 h
  exact ⟨k, by simpa using e1⟩
theorem items_open {a : Option Addr} {len cap : Nat} {d : DataW H} {ps : List MemPlace} (h : DataW.Trod enc Tryz.prog w base spare held 22 (.slice a len cap) d ps) : ∃ l : List Fi, l.length = len ∧ len ≤ cap ∧ kFi.C w a len l := by
  obtain ⟨fuel, hf⟩ := h
  rcases rows_open Tryz.underlying22 Tryz.underlying62 (by kernel_rfl) (by kernel_rfl) hf with hc | ⟨x, n, c, hc, hl, hm, hi⟩
  · simp [Value.cells] at hc
    obtain ⟨rfl, rfl, rfl⟩ := hc
    exact ⟨[], rfl, Nat.le_refl _, rfl, by simp, fun h => absurd h (by simp)⟩
  · simp [Value.cells] at hc
    obtain ⟨rfl, rfl, rfl⟩ := hc
    have h1 : ∀ i, i < len → ∃ z : Fi, ∀ j u, ([.string z.f0, .int .u16 z.f1, .int .u16 z.f2, .int .u8 z.f3, .bool z.f4] : List Value)[j]? = some u → w.cell? (x.add (i * 5 + j)) = some u := by
      intro i hil
      obtain ⟨v0, _, _, c0, t0⟩ := hi i hil 0 _ rfl
      obtain ⟨v1, _, _, c1, t1⟩ := hi i hil 1 _ rfl
      obtain ⟨v2, _, _, c2, t2⟩ := hi i hil 2 _ rfl
      obtain ⟨v3, _, _, c3, t3⟩ := hi i hil 3 _ rfl
      obtain ⟨v4, _, _, c4, t4⟩ := hi i hil 4 _ rfl
      obtain ⟨k0, rfl⟩ := cell_string t0
      obtain ⟨k1, rfl⟩ := cell_u16 t1
      obtain ⟨k2, rfl⟩ := cell_u16 t2
      obtain ⟨k3, rfl⟩ := cell_u8 t3
      obtain ⟨k4, rfl⟩ := cell_bool t4
      refine ⟨⟨k0, k1, k2, k3, k4⟩, fun j u hu => ?_⟩
      match j, hu with
      | 0, hu => rw [← Option.some.inj hu]; exact c0
      | 1, hu => rw [← Option.some.inj hu]; exact c1
      | 2, hu => rw [← Option.some.inj hu]; exact c2
      | 3, hu => rw [← Option.some.inj hu]; exact c3
      | 4, hu => rw [← Option.some.inj hu]; exact c4
      | j + 5, hu => simp at hu
    obtain ⟨l, hll, hq⟩ := list_of _ len h1
    exact ⟨l, hll, hl, hll, by simp only [maxLen] at hm; omega, fun _ => ⟨x, rfl, fun j p hj => ⟨_, rfl, k62_mk w p, fun i u hu => hq j p hj i u hu⟩⟩⟩
theorem frules_open {a : Option Addr} {len cap : Nat} {d : DataW H} {ps : List MemPlace} (h : DataW.Trod enc Tryz.prog w base spare held 23 (.slice a len cap) d ps) : ∃ l : List Fr, l.length = len ∧ len ≤ cap ∧ kFr.C w a len l := by
  obtain ⟨fuel, hf⟩ := h
  rcases rows_open Tryz.underlying23 Tryz.underlying45 (by kernel_rfl) (by kernel_rfl) hf with hc | ⟨x, n, c, hc, hl, hm, hi⟩
  · simp [Value.cells] at hc
    obtain ⟨rfl, rfl, rfl⟩ := hc
    exact ⟨[], rfl, Nat.le_refl _, rfl, by simp, fun h => absurd h (by simp)⟩
  · simp [Value.cells] at hc
    obtain ⟨rfl, rfl, rfl⟩ := hc
    have h1 : ∀ i, i < len → ∃ z : Fr, ∀ j u, ([.int .u8 z.f0, .int .u16 z.f1, .bool z.f2, .bool z.f3] : List Value)[j]? = some u → w.cell? (x.add (i * 4 + j)) = some u := by
      intro i hil
      obtain ⟨v0, _, _, c0, t0⟩ := hi i hil 0 _ rfl
      obtain ⟨v1, _, _, c1, t1⟩ := hi i hil 1 _ rfl
      obtain ⟨v2, _, _, c2, t2⟩ := hi i hil 2 _ rfl
      obtain ⟨v3, _, _, c3, t3⟩ := hi i hil 3 _ rfl
      obtain ⟨k0, rfl⟩ := cell_u8 t0
      obtain ⟨k1, rfl⟩ := cell_u16 t1
      obtain ⟨k2, rfl⟩ := cell_bool t2
      obtain ⟨k3, rfl⟩ := cell_bool t3
      refine ⟨⟨k0, k1, k2, k3⟩, fun j u hu => ?_⟩
      match j, hu with
      | 0, hu => rw [← Option.some.inj hu]; exact c0
      | 1, hu => rw [← Option.some.inj hu]; exact c1
      | 2, hu => rw [← Option.some.inj hu]; exact c2
      | 3, hu => rw [← Option.some.inj hu]; exact c3
      | j + 4, hu => simp at hu
    obtain ⟨l, hll, hq⟩ := list_of _ len h1
    exact ⟨l, hll, hl, hll, by simp only [maxLen] at hm; omega, fun _ => ⟨x, rfl, fun j p hj => ⟨_, rfl, k45_mk w p, fun i u hu => hq j p hj i u hu⟩⟩⟩
end
end Go.Proofs.YtmkbebincjppnaaGreatDoor
