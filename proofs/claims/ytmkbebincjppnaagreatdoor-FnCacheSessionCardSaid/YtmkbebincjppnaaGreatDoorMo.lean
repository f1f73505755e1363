/- What a run of steps does to the cache and tells: in plain words. -/
import Derived.Test.YtmkbebincjppnaaGreatDoorMg
import Derived.Test.YtmkbebincjppnaaGreatDoorPLibx1
namespace Go.Proofs.YtmkbebincjppnaaGreatDoor
open Go.RowKit Go.Proofs.YtmkbebincjppnaaGreatDoorW.PrintWords Go.Proofs.YtmkbebincjppnaaGreatDoorW.PrintLast Go.Proofs.YtmkbebincjppnaaGreatDoorW.PrintMore Go.Proofs.YtmkbebincjppnaaGreatDoor.PLib
set_option linter.unusedVariables false
set_option linter.unusedSimpArgs false

abbrev Sp := S31
abbrev Ir := S36
def rulesOf (l : List Ir) : List Rl := l.map fun x => (⟨x.f0, x.f1, x.f2, x.f3⟩ : Rl)
theorem wrap_next (i : Nat) (h : i < 1000000000) : wrap64 ((i : Int) + 1) = ((i + 1 : Nat) : Int) := by
  unfold wrap64
  omega
theorem irules_law (l : List Ir) (hl : l.length < 1000000) : ∀ d i acc, i + d = l.length → acc.length = i → impl_rules.l0 (d + 1) acc l (l.length : Int) (i : Int) = some (acc ++ (rulesOf l).drop i)
  | 0, i, acc, h, ha => by
    rw [impl_rules.l0, if_neg (by omega)]
    rw [List.drop_eq_nil_of_le (by simp [rulesOf]; omega), List.append_nil]
  | d + 1, i, acc, h, ha => by
    have hi : i < l.length := by omega
    rw [impl_rules.l0, if_pos (by omega), if_pos (by omega), if_pos (by omega)]
    simp only [dtls_ZZMakeRule.f, Option.bind_some]
    rw [if_pos (by omega), wrap_next i (by omega), irules_law l hl d (i + 1) _ (by omega) (by simp [ha])]
    have e1 : rd_T36 l (i : Int) = l[i] := by simp [rd_T36, hi]
    have e2 : (rulesOf l).drop i = (⟨l[i].f0, l[i].f1, l[i].f2, l[i].f3⟩ : Rl) :: (rulesOf l).drop (i + 1) := by
      rw [List.drop_eq_getElem_cons (by simp [rulesOf]; omega)]
      simp [rulesOf]
    rw [e1, e2, List.append_assoc]
    rfl
theorem irules_f (l : List Ir) (hl : l.length < 1000000) : impl_rules.f (l.length + 1) l = some (rulesOf l) := by
  have := irules_law l hl l.length 0 [] (by omega) rfl
  simpa [impl_rules.f] using this
theorem rulesOf_length (l : List Ir) : (rulesOf l).length = l.length := by simp [rulesOf]

/-- A cache, in plain words. -/
structure CS where
  its : List It
  sz : Int
  done : Bool
structure Pd where
  has : Bool
  ep : Int
  sq : Int
  dat : ByteArray
structure Told where
  ok : Bool
  next : Int
  text : ByteArray
  pulled : List Pd
def zTold : Told := ⟨false, 0, ⟨#[]⟩, []⟩
def itemOf (x : Sp) : It := ⟨x.f4, x.f5, x.f2, x.f3, bytesOf x.f1⟩
def stepTo (s : CS) (x : Sp) : CS :=
  if x.f0 = 0 then (if s.done = true then s else ⟨s.its ++ [itemOf x], s.sz + x.f1.size, false⟩)
  else if x.f0 = 1 then ⟨s.its, s.sz, true⟩ else s
def pdOf (its : List It) (r : Rl) : Pd := match pick its r with
  | none => ⟨false, 0, 0, ⟨#[]⟩⟩
  | some k => ⟨true, (its[k]?.getD ⟨0, false, 0, 0, []⟩).ep, (its[k]?.getD ⟨0, false, 0, 0, []⟩).sq, strOfNums (its[k]?.getD ⟨0, false, 0, 0, []⟩).dat⟩
def toldOf (s : CS) (x : Sp) : Told :=
  if x.f0 = 0 then ⟨true, 0, ⟨#[]⟩, []⟩
  else if x.f0 = 1 then zTold
  else if x.f0 = 2 then ⟨false, 0, ⟨#[]⟩, (rulesOf x.f6).map (pdOf s.its)⟩
  else ⟨false, 0, strOfNums (mergeTo s.its (rulesOf x.f6) x.f6.length), []⟩
def runTo (l : List Sp) : Nat → CS
  | 0 => ⟨[], 0, false⟩
  | i + 1 => stepTo (runTo l i) (l.getD i z31)
def tolds (l : List Sp) : Nat → List Told
  | 0 => []
  | i + 1 => tolds l i ++ [toldOf (runTo l i) (l.getD i z31)]
theorem tolds_length (l : List Sp) : ∀ i, (tolds l i).length = i
  | 0 => rfl
  | i + 1 => by simp [tolds, tolds_length l i]
/-- What a step may ask of a cache. -/
def Fit (s : CS) (x : Sp) : Prop :=
  (x.f0 = 0 ∧ (s.done = false → s.its.length < 1000 ∧ x.f1.size ≤ 2000 ∧ ∀ k, k < s.its.length → ¬ ((s.its[k]?.getD ⟨0, false, 0, 0, []⟩).ep = x.f2 ∧ (s.its[k]?.getD ⟨0, false, 0, 0, []⟩).sq = x.f3 ∧ (s.its[k]?.getD ⟨0, false, 0, 0, []⟩).cl = x.f5)) ∧ x.f1.size ≤ 1000000000)
  ∨ x.f0 = 1 ∨ ((x.f0 = 2 ∨ x.f0 = 3) ∧ x.f6.length < 1000)
/-- What stays true of a cache. -/
structure Inv (s : CS) : Prop where
  n : s.its.length ≤ 1000
  z0 : 0 ≤ s.sz
  z1 : s.sz ≤ s.its.length * 2000
  d : ∀ x, x ∈ s.its → x.dat.length ≤ 2000
theorem Inv.step {s : CS} (h : Inv s) {x : Sp} (hf : Fit s x) : Inv (stepTo s x) := by
  obtain ⟨h1, h2, h3, h4⟩ := h
  unfold stepTo
  split
  · rename_i e
    split
    · exact ⟨h1, h2, h3, h4⟩
    · rename_i e2
      rcases hf with ⟨_, hg, _⟩ | e' | ⟨e', _⟩
      · obtain ⟨g1, g2, _⟩ := hg (by simpa using e2)
        refine ⟨by simp; omega, by simp; omega, by simp; omega, fun y hy => ?_⟩
        rcases List.mem_append.1 hy with hy | hy
        · exact h4 y hy
        · rw [List.mem_singleton.1 hy]
          simpa [itemOf, bytesOf_length] using g2
      · omega
      · omega
  · split <;> exact ⟨h1, h2, h3, h4⟩
end Go.Proofs.YtmkbebincjppnaaGreatDoor
