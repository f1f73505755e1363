/- What runs of pushes, an end and a look tell: in plain words. -/
import Derived.Test.YtmkbebincjppnaaGreatDoorPf
namespace Go.Proofs.YtmkbebincjppnaaGreatDoor
open Go.RowKit Go.Proofs.YtmkbebincjppnaaGreatDoorW.PrintWords Go.Proofs.YtmkbebincjppnaaGreatDoorW.PrintLast Go.Proofs.YtmkbebincjppnaaGreatDoorW.PrintMore Go.Proofs.YtmkbebincjppnaaGreatDoor.PLib
set_option linter.unusedVariables false
set_option linter.unusedSimpArgs false

theorem tolds_at (L : List Sp) : ∀ n i, i < n → (tolds L n)[i]? = some (toldOf (runTo L i) (L.getD i z31))
  | n + 1, i, h => by
    rw [tolds]
    by_cases hi : i < n
    · rw [List.getElem?_append_left (by rw [tolds_length]; exact hi)]
      exact tolds_at L n i hi
    · obtain rfl : i = n := by omega
      rw [List.getElem?_append_right (by rw [tolds_length]; exact Nat.le_refl _), tolds_length, Nat.sub_self]
      rfl
/-- Behind i pushes. -/
theorem run_pushes (l : List Fi) (rest : List Sp) : ∀ i, i ≤ l.length → (runTo (l.map stF ++ rest) i).its = (l.take i).map itF ∧ (runTo (l.map stF ++ rest) i).done = false
  | 0, _ => ⟨by simp [runTo], rfl⟩
  | i + 1, h => by
    have ih := run_pushes l rest i (by omega)
    have hg : (l.map stF ++ rest).getD i z31 = stF l[i] := by simp [List.getD_eq_getElem?_getD, List.getElem?_append_left, show i < l.length by omega]
    rw [runTo, hg]
    unfold stepTo
    rw [if_pos (show (stF l[i]).f0 = 0 from rfl), if_neg (by rw [ih.2]; decide)]
    refine ⟨?_, rfl⟩
    rw [ih.1, List.take_succ_eq_append_getElem (by omega : i < l.length), List.map_append]
    rfl
theorem getD_push (l : List Fi) (rest : List Sp) (i : Nat) (hi : i < l.length) : (l.map stF ++ rest).getD i z31 = stF l[i] := by simp [List.getD_eq_getElem?_getD, List.getElem?_append_left, hi]
theorem getD_rest (l : List Fi) (rest : List Sp) (j : Nat) : (l.map stF ++ rest).getD (l.length + j) z31 = rest.getD j z31 := by
  rw [List.getD_eq_getElem?_getD, List.getD_eq_getElem?_getD, List.getElem?_append_right (by simp), List.length_map, Nat.add_sub_cancel_left]
theorem kept_asc {l : List Fi} (hk : KeptP l) : ∀ d a, a + d + 1 < l.length → (l.getD a z62).f2 < (l.getD (a + d + 1) z62).f2
  | 0, a, h => by have := (hk.2 (a + 1) (by omega)).2 (by omega); simpa using this
  | d + 1, a, h => by
    have h1 := kept_asc hk d a (by omega)
    have h2 := (hk.2 (a + (d + 1) + 1) h).2 (by omega)
    rw [show a + (d + 1) + 1 - 1 = a + d + 1 by omega] at h2
    exact Int.lt_trans h1 h2
theorem fit_push {l : List Fi} (rest : List Sp) (hk : KeptP l) (i : Nat) (hi : i < l.length) : Fit (runTo (l.map stF ++ rest) i) ((l.map stF ++ rest).getD i z31) := by
  have hr := run_pushes l rest i (by omega)
  have hs : l[i].f0.size ≤ 2000 := by
    have := (hk.2 i hi).1
    rwa [show l.getD i z62 = l[i] by simp [hi]] at this
  rw [getD_push l rest i hi]
  refine .inl ⟨rfl, fun _ => ⟨?_, hs, fun k hkl => ?_⟩, by show l[i].f0.size ≤ 1000000000; omega⟩
  · rw [hr.1]
    have := hk.1
    simp
    omega
  · rw [hr.1] at hkl ⊢
    have hkl' : k < i := by simp at hkl; omega
    have e : ((l.take i).map itF)[k]?.getD ⟨0, false, 0, 0, []⟩ = itF (l.getD k z62) := by
      simp [List.getElem?_take, hkl', show k < l.length by omega]
    rw [e]
    intro h
    have h2 : (l.getD k z62).f2 = l[i].f2 := h.2.1
    have h3 := kept_asc hk (i - k - 1) k (by omega)
    rw [show k + (i - k - 1) + 1 = i by omega, show l.getD i z62 = l[i] by simp [hi]] at h3
    omega
def kLast (n : Int) (r : List Fr) : Sp := ⟨n, ⟨#[]⟩, 0, 0, 0, false, r.map irF, 0, 0, 0, []⟩
def kEnd : Sp := ⟨1, ⟨#[]⟩, 0, 0, 0, false, [], 0, 0, 0, []⟩

/-! A finished cache. -/
def finSteps (l more : List Fi) (r : List Fr) : List Sp := l.map stF ++ (kEnd :: (more.map stF ++ [kLast 3 r]))
theorem fin_length (l more : List Fi) (r : List Fr) : (finSteps l more r).length = l.length + more.length + 2 := by simp [finSteps]; omega
theorem fin_at (l more : List Fi) (r : List Fr) (j : Nat) (hj : j < more.length) : (finSteps l more r).getD (l.length + (j + 1)) z31 = stF more[j] := by
  rw [finSteps, getD_rest]
  simp [List.getD_eq_getElem?_getD, List.getElem?_append_left, hj]
theorem fin_last (l more : List Fi) (r : List Fr) : (finSteps l more r).getD (l.length + (more.length + 1)) z31 = kLast 3 r := by
  rw [finSteps, getD_rest]
  simp [List.getD_eq_getElem?_getD]
theorem fin_end (l more : List Fi) (r : List Fr) : (finSteps l more r).getD l.length z31 = kEnd := by
  exact getD_rest l (kEnd :: (more.map stF ++ [kLast 3 r])) 0
theorem fin_run (l more : List Fi) (r : List Fr) : ∀ j, j ≤ more.length → (runTo (finSteps l more r) (l.length + (j + 1))).its = l.map itF ∧ (runTo (finSteps l more r) (l.length + (j + 1))).done = true
  | 0, _ => by
    have h := run_pushes l (kEnd :: (more.map stF ++ [kLast 3 r])) l.length (Nat.le_refl _)
    rw [List.take_length] at h
    rw [show l.length + (0 + 1) = l.length + 1 from rfl, runTo, fin_end]
    unfold stepTo
    rw [if_neg (by decide), if_pos (show kEnd.f0 = 1 from rfl)]
    exact ⟨h.1, rfl⟩
  | j + 1, h => by
    have ih := fin_run l more r j (by omega)
    rw [show l.length + (j + 1 + 1) = l.length + (j + 1) + 1 from rfl, runTo, fin_at l more r j (by omega)]
    unfold stepTo
    rw [if_pos (show (stF more[j]).f0 = 0 from rfl), if_pos ih.2]
    exact ih
theorem kept_left {l more : List Fi} (hk : KeptP (l ++ more)) : KeptP l := by
  refine ⟨by have := hk.1; simp at this; omega, fun j hj => ?_⟩
  have h := hk.2 j (by simp; omega)
  have e : ∀ a, a < l.length → (l ++ more).getD a z62 = l.getD a z62 := fun a ha => by simp [List.getD_eq_getElem?_getD, List.getElem?_append_left, ha]
  unfold KeptAt at h ⊢
  rw [e j hj] at h
  refine ⟨h.1, fun h0 => ?_⟩
  have h2 := h.2 h0
  rwa [e (j - 1) (by omega)] at h2
theorem fin_fit {l more : List Fi} {r : List Fr} (hk : KeptP (l ++ more)) (hr : r.length ≤ 60) (i : Nat) (hi : i < (finSteps l more r).length) : Fit (runTo (finSteps l more r) i) ((finSteps l more r).getD i z31) := by
  rw [fin_length] at hi
  by_cases h1 : i < l.length
  · exact fit_push _ (kept_left hk) i h1
  · by_cases h2 : i = l.length
    · subst h2
      rw [fin_end]
      exact .inr (.inl rfl)
    · obtain ⟨j, rfl⟩ : ∃ j, i = l.length + (j + 1) := ⟨i - l.length - 1, by omega⟩
      by_cases h3 : j < more.length
      · have hd := (fin_run l more r j (by omega)).2
        rw [fin_at l more r j h3]
        refine .inl ⟨rfl, fun h => absurd h (by rw [hd]; decide), ?_⟩
        have h4 := (hk.2 (l.length + j) (by simp; omega)).1
        have e : (l ++ more).getD (l.length + j) z62 = more[j] := by simp [List.getD_eq_getElem?_getD, h3]
        rw [e] at h4
        show more[j].f0.size ≤ 1000000000
        omega
      · obtain rfl : j = more.length := by omega
        rw [fin_last]
        exact .inr (.inr ⟨.inr rfl, by show (r.map irF).length < 1000; simp; omega⟩)
theorem fin_text (l more : List Fi) (r : List Fr) : (tolds (finSteps l more r) (finSteps l more r).length)[l.length + (more.length + 1)]? = some ⟨false, 0, strOfNums (mergeTo (l.map itF) (r.map rlF) r.length), []⟩ := by
  rw [tolds_at _ _ _ (by rw [fin_length]; omega), fin_last]
  have h := (fin_run l more r more.length (Nat.le_refl _)).1
  unfold toldOf
  rw [if_neg (show ¬ (kLast 3 r).f0 = 0 from by show ¬ (3 : Int) = 0; decide), if_neg (show ¬ (kLast 3 r).f0 = 1 from by show ¬ (3 : Int) = 1; decide), if_neg (show ¬ (kLast 3 r).f0 = 2 from by show ¬ (3 : Int) = 2; decide), h]
  show some (Told.mk false 0 (strOfNums (mergeTo (l.map itF) (rulesOf (r.map irF)) (r.map irF).length)) []) = _
  rw [rulesOf_irF, List.length_map]

/-! The law's own little run. -/
def xItem : Fi := ⟨⟨#[120]⟩, 0, 0, 1, true⟩
def xRule : Fr := ⟨1, 0, true, false⟩
theorem x_steps : finSteps [xItem] [] [xRule] = [⟨0, ⟨#[120]⟩, 0, 0, 1, true, [], 0, 0, 0, []⟩, ⟨1, ⟨#[]⟩, 0, 0, 0, false, [], 0, 0, 0, []⟩, ⟨3, ⟨#[]⟩, 0, 0, 0, false, [⟨1, 0, true, false⟩], 0, 0, 0, []⟩] := rfl
theorem x_kept : KeptP ([xItem] ++ []) := ⟨by decide, fun j hj => by
  obtain rfl : j = 0 := by simp at hj; omega
  exact ⟨by decide, fun h => absurd h (by decide)⟩⟩
theorem x_text : strOfNums (mergeTo ([xItem].map itF) ([xRule].map rlF) 1) = ⟨#[120]⟩ := by decide
end Go.Proofs.YtmkbebincjppnaaGreatDoor
