/- What runs of pushes and looks tell: the laws of the pull and of the merge. -/
import Derived.Test.YtmkbebincjppnaaGreatDoorLf
namespace Go.Proofs.YtmkbebincjppnaaGreatDoor
open Go.RowKit Go.Proofs.YtmkbebincjppnaaGreatDoorW.PrintWords Go.Proofs.YtmkbebincjppnaaGreatDoorW.PrintLast Go.Proofs.YtmkbebincjppnaaGreatDoorW.PrintMore Go.Proofs.YtmkbebincjppnaaGreatDoor.PLib
set_option linter.unusedVariables false
set_option linter.unusedSimpArgs false

def pullSteps (l : List Fi) (r : List Fr) : List Sp := l.map stF ++ [kLast 2 r]
def mergeSteps (l : List Fi) (r : List Fr) : List Sp := l.map stF ++ [kLast 3 r, kLast 2 r]
theorem run_all (l : List Fi) (rest : List Sp) : (runTo (l.map stF ++ rest) l.length).its = l.map itF := by
  have h := (run_pushes l rest l.length (Nat.le_refl _)).1
  rwa [List.take_length] at h
theorem told2 (s : CS) (r : List Fr) : toldOf s (kLast 2 r) = ⟨false, 0, ⟨#[]⟩, (r.map rlF).map (pdOf s.its)⟩ := by
  unfold toldOf
  rw [if_neg (show ¬ (kLast 2 r).f0 = 0 from by show ¬ (2 : Int) = 0; decide), if_neg (show ¬ (kLast 2 r).f0 = 1 from by show ¬ (2 : Int) = 1; decide), if_pos (show (kLast 2 r).f0 = 2 from rfl)]
  show Told.mk false 0 ⟨#[]⟩ ((rulesOf (r.map irF)).map (pdOf s.its)) = _
  rw [rulesOf_irF]
theorem told3 (s : CS) (r : List Fr) : toldOf s (kLast 3 r) = ⟨false, 0, strOfNums (mergeTo s.its (r.map rlF) r.length), []⟩ := by
  unfold toldOf
  rw [if_neg (show ¬ (kLast 3 r).f0 = 0 from by show ¬ (3 : Int) = 0; decide), if_neg (show ¬ (kLast 3 r).f0 = 1 from by show ¬ (3 : Int) = 1; decide), if_neg (show ¬ (kLast 3 r).f0 = 2 from by show ¬ (3 : Int) = 2; decide)]
  show Told.mk false 0 (strOfNums (mergeTo s.its (rulesOf (r.map irF)) (r.map irF).length)) [] = _
  rw [rulesOf_irF, List.length_map]
theorem fit_look (s : CS) (n : Int) (hn : n = 2 ∨ n = 3) (r : List Fr) (hr : r.length ≤ 60) : Fit s (kLast n r) := .inr (.inr ⟨hn, by show (r.map irF).length < 1000; simp; omega⟩)
theorem pull_length (l : List Fi) (r : List Fr) : (pullSteps l r).length = l.length + 1 := by simp [pullSteps]
theorem pull_fit {l : List Fi} {r : List Fr} (hk : KeptP l) (hr : r.length ≤ 60) (i : Nat) (hi : i < (pullSteps l r).length) : Fit (runTo (pullSteps l r) i) ((pullSteps l r).getD i z31) := by
  rw [pull_length] at hi
  by_cases h1 : i < l.length
  · exact fit_push _ hk i h1
  · obtain rfl : i = l.length := by omega
    have := getD_rest l [kLast 2 r] 0
    rw [pullSteps, show (l.map stF ++ [kLast 2 r]).getD l.length z31 = kLast 2 r from this]
    exact fit_look _ 2 (.inl rfl) r hr
theorem pull_told (l : List Fi) (r : List Fr) : (tolds (pullSteps l r) (pullSteps l r).length)[l.length]? = some ⟨false, 0, ⟨#[]⟩, (r.map rlF).map (pdOf (l.map itF))⟩ := by
  rw [tolds_at _ _ _ (by rw [pull_length]; omega)]
  have := getD_rest l [kLast 2 r] 0
  rw [pullSteps, show (l.map stF ++ [kLast 2 r]).getD l.length z31 = kLast 2 r from this, told2, run_all]
theorem merge_length (l : List Fi) (r : List Fr) : (mergeSteps l r).length = l.length + 2 := by simp [mergeSteps]
theorem merge_at0 (l : List Fi) (r : List Fr) : (mergeSteps l r).getD l.length z31 = kLast 3 r := getD_rest l [kLast 3 r, kLast 2 r] 0
theorem merge_at1 (l : List Fi) (r : List Fr) : (mergeSteps l r).getD (l.length + 1) z31 = kLast 2 r := getD_rest l [kLast 3 r, kLast 2 r] 1
theorem merge_fit {l : List Fi} {r : List Fr} (hk : KeptP l) (hr : r.length ≤ 60) (i : Nat) (hi : i < (mergeSteps l r).length) : Fit (runTo (mergeSteps l r) i) ((mergeSteps l r).getD i z31) := by
  rw [merge_length] at hi
  by_cases h1 : i < l.length
  · exact fit_push _ hk i h1
  · by_cases h2 : i = l.length
    · subst h2
      rw [merge_at0]
      exact fit_look _ 3 (.inr rfl) r hr
    · obtain rfl : i = l.length + 1 := by omega
      rw [merge_at1]
      exact fit_look _ 2 (.inl rfl) r hr
theorem merge_run (l : List Fi) (r : List Fr) : (runTo (mergeSteps l r) (l.length + 1)).its = l.map itF := by
  rw [runTo, merge_at0]
  unfold stepTo
  rw [if_neg (show ¬ (kLast 3 r).f0 = 0 from by show ¬ (3 : Int) = 0; decide), if_neg (show ¬ (kLast 3 r).f0 = 1 from by show ¬ (3 : Int) = 1; decide)]
  exact run_all l _
theorem merge_told0 (l : List Fi) (r : List Fr) : (tolds (mergeSteps l r) (mergeSteps l r).length)[l.length]? = some ⟨false, 0, strOfNums (mergeTo (l.map itF) (r.map rlF) r.length), []⟩ := by
  rw [tolds_at _ _ _ (by rw [merge_length]; omega), merge_at0, told3]
  rw [show (runTo (mergeSteps l r) l.length).its = l.map itF from run_all l _]
theorem merge_told1 (l : List Fi) (r : List Fr) : (tolds (mergeSteps l r) (mergeSteps l r).length)[l.length + 1]? = some ⟨false, 0, ⟨#[]⟩, (r.map rlF).map (pdOf (l.map itF))⟩ := by
  rw [tolds_at _ _ _ (by rw [merge_length]; omega), merge_at1, told2, merge_run]
/-- What the pulled texts are together. -/
theorem merged (l : List Fi) (r : List Fr) : ∀ i, i ≤ r.length → strOfNums (mergeTo (l.map itF) (r.map rlF) (i)) = (((r.map rlF).map (pdOf (l.map itF))).take i).foldl (fun s p => s ++ p.dat) ⟨#[]⟩
  | 0, _ => rfl
  | i + 1, h => by
    have ih := merged l r i (by omega)
    have hi : i < r.length := by omega
    have e3 : (r.map rlF).getD i z96 = rlF r[i] := by simp [hi]
    rw [List.take_succ_eq_append_getElem (by simp; omega), List.foldl_append, ← ih, mergeTo, e3, str_append]
    simp only [List.foldl_cons, List.foldl_nil, List.getElem_map]
    congr 1
    unfold pdOf
    cases hp : pick (l.map itF) (rlF r[i]) with
    | none => rfl
    | some k => rfl
end Go.Proofs.YtmkbebincjppnaaGreatDoor
