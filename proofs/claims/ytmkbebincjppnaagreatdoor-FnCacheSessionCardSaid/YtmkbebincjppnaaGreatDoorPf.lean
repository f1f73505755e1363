/- The plain laws: what the laws' own helpers and the set's reference answer, and what a run of pushes leaves. -/
import Derived.Test.YtmkbebincjppnaaGreatDoorKe
import Derived.Test.YtmkbebincjppnaaGreatDoorPLibx2
namespace Go.Proofs.YtmkbebincjppnaaGreatDoor
open Go.RowKit Go.Proofs.YtmkbebincjppnaaGreatDoorW.PrintWords Go.Proofs.YtmkbebincjppnaaGreatDoorW.PrintLast Go.Proofs.YtmkbebincjppnaaGreatDoorW.PrintMore Go.Proofs.YtmkbebincjppnaaGreatDoor.PLib
set_option linter.unusedVariables false
set_option linter.unusedSimpArgs false

abbrev Fr := S45
abbrev kFr : Kd Fr := k45
def itF (x : Fi) : It := ⟨x.f3, x.f4, x.f1, x.f2, bytesOf x.f0⟩
def stF (x : Fi) : Sp := ⟨0, x.f0, x.f1, x.f2, x.f3, x.f4, [], 0, 0, 0, []⟩
def irF (x : Fr) : Ir := ⟨x.f0, x.f1, x.f2, x.f3⟩
def rlF (x : Fr) : Rl := ⟨x.f0, x.f1, x.f2, x.f3⟩
theorem rulesOf_irF (r : List Fr) : rulesOf (r.map irF) = r.map rlF := by simp [rulesOf, irF, rlF, Function.comp_def]

theorem str_bytes (s : ByteArray) : strOfNums (bytesOf s) = s := by
  apply ByteArray.ext
  apply Array.ext'
  rw [strOfNums_data, bytesOf, List.map_map]
  have : ((fun n : Int => UInt8.ofNat n.toNat) ∘ fun b : UInt8 => (b.toNat : Int)) = id := by
    funext b
    simp
  rw [this, List.map_id]
theorem str_append (xs ys : List Int) : strOfNums (xs ++ ys) = strOfNums xs ++ strOfNums ys := by
  apply ByteArray.ext
  apply Array.ext'
  simp [strOfNums_data, ByteArray.data_append]

theorem pushes_law (l : List Fi) (hl : l.length < 1000000) : ∀ d i acc, i + d = l.length → acc.length = i → laws_pushes.l0 (d + 1) acc l (l.length : Int) (i : Int) = some (acc ++ (l.map stF).drop i)
  | 0, i, acc, h, ha => by
    rw [laws_pushes.l0, if_neg (by omega)]
    rw [List.drop_eq_nil_of_le (by simp; omega), List.append_nil]
  | d + 1, i, acc, h, ha => by
    have hi : i < l.length := by omega
    rw [laws_pushes.l0, if_pos (by omega), if_pos (by omega), if_pos (by omega)]
    rw [if_pos (by omega), wrap_next i (by omega), pushes_law l hl d (i + 1) _ (by omega) (by simp [ha])]
    have e1 : rd_T62 l (i : Int) = l[i] := by simp [rd_T62, hi]
    have e2 : (l.map stF).drop i = stF l[i] :: (l.map stF).drop (i + 1) := by
      rw [List.drop_eq_getElem_cons (by simp; omega)]
      simp
    rw [e1, e2, List.append_assoc]
    rfl
theorem pushes_f (l : List Fi) (hl : l.length < 1000000) : laws_pushes.f (l.length + 1) l = some (l.map stF) := by
  have := pushes_law l hl l.length 0 [] (by omega) rfl
  simpa [laws_pushes.f] using this
theorem lrules_law (l : List Fr) (hl : l.length < 1000000) : ∀ d i acc, i + d = l.length → acc.length = i → laws_rules.l0 (d + 1) acc l (l.length : Int) (i : Int) = some (acc ++ (l.map irF).drop i)
  | 0, i, acc, h, ha => by
    rw [laws_rules.l0, if_neg (by omega)]
    rw [List.drop_eq_nil_of_le (by simp; omega), List.append_nil]
  | d + 1, i, acc, h, ha => by
    have hi : i < l.length := by omega
    rw [laws_rules.l0, if_pos (by omega), if_pos (by omega), if_pos (by omega)]
    rw [if_pos (by omega), wrap_next i (by omega), lrules_law l hl d (i + 1) _ (by omega) (by simp [ha])]
    have e1 : rd_T45 l (i : Int) = l[i] := by simp [rd_T45, hi]
    have e2 : (l.map irF).drop i = irF l[i] :: (l.map irF).drop (i + 1) := by
      rw [List.drop_eq_getElem_cons (by simp; omega)]
      simp
    rw [e1, e2, List.append_assoc]
    rfl
theorem lrules_f (l : List Fr) (hl : l.length < 1000000) : laws_rules.f (l.length + 1) l = some (l.map irF) := by
  have := lrules_law l hl l.length 0 [] (by omega) rfl
  simpa [laws_rules.f] using this

theorem wrap_next' (i : Nat) (h : i < 9223372036854775807) : wrap64 ((i : Int) + 1) = ((i + 1 : Nat) : Int) := by
  unfold wrap64
  omega
theorem fits_l0 (l : List Fi) (hl : l.length ≤ 2147483647) : ∀ d i, i + d = l.length → ∃ r, laws_zzFits1.l0 (d + 1) l (l.length : Int) (i : Int) = some r
  | 0, i, h => ⟨true, by rw [laws_zzFits1.l0, if_neg (by omega)]⟩
  | d + 1, i, h => by
    have hi : i < l.length := by omega
    rw [laws_zzFits1.l0, if_pos (by omega), if_pos (by omega), if_pos (by omega), wrap_next' i (by omega)]
    obtain ⟨r, hr⟩ := fits_l0 l hl d (i + 1) (by omega)
    unfold laws_zzFits2.f
    split
    · exact ⟨false, rfl⟩
    · exact ⟨r, by simpa using hr⟩
theorem fits_f (l : List Fi) : ∃ k r, laws_zzFits1.f k l = some r := by
  by_cases h : (l.length : Int) > 2147483647
  · exact ⟨0, false, by rw [laws_zzFits1.f, if_pos h]⟩
  · obtain ⟨r, hr⟩ := fits_l0 l (by omega) l.length 0 (by omega)
    exact ⟨_, r, by rw [laws_zzFits1.f, if_neg h]; exact hr⟩

/-! The reference's pull. -/
def encP : Option Nat → Int
  | none => -1
  | some k => k
theorem pickTo_succ (l : List Fi) (r : Fr) (hk : ∀ j, j < l.length → KeptAt l j) (j : Nat) (hj : j < l.length) :
    encP (pickTo (l.map itF) (rlF r) (j + 1)) = if (l.getD j z62).f3 = r.f0 ∧ (l.getD j z62).f1 = r.f1 ∧ (l.getD j z62).f4 = r.f2 then (j : Int) else encP (pickTo (l.map itF) (rlF r) j) := by
  have hg : l.getD j z62 = l[j] := by simp [hj]
  rw [pickTo, List.getElem?_map, List.getElem?_eq_getElem hj, hg]
  simp only [Option.map_some]
  by_cases hm : l[j].f3 = r.f0 ∧ l[j].f1 = r.f1 ∧ l[j].f4 = r.f2
  · rw [if_pos hm, if_pos (show meets (itF l[j]) (rlF r) from ⟨hm.1, hm.2.2, hm.2.1⟩)]
    cases hp : pickTo (l.map itF) (rlF r) j with
    | none => rfl
    | some k =>
      have hkj := pickTo_lt _ _ _ _ hp
      have hkl : k < l.length := by simpa using hkj.2
      have hasc : ∀ d a, a + d + 1 ≤ j → (l.getD a z62).f2 < (l.getD (a + d + 1) z62).f2 := by
        intro d
        induction d with
        | zero => intro a ha; have := (hk (a + 1) (by omega)).2 (by omega); simpa using this
        | succ d ih =>
          intro a ha
          have h1 := ih a (by omega)
          have h2 := (hk (a + (d + 1) + 1) (by omega)).2 (by omega)
          have e : a + (d + 1) + 1 - 1 = a + d + 1 := by omega
          rw [e] at h2
          exact Int.lt_trans h1 h2
      have h3 := hasc (j - k - 1) k (by omega)
      rw [show k + (j - k - 1) + 1 = j by omega] at h3
      have e4 : ((l.map itF)[k]?.getD ⟨0, false, 0, 0, []⟩).sq = (l.getD k z62).f2 := by simp [hkl, itF]
      simp only
      rw [e4, if_pos (by rw [show (itF l[j]).sq = l[j].f2 from rfl, ← hg]; exact h3)]
      rfl
  · rw [if_neg hm, if_neg (fun h => hm ⟨h.1, h.2.2, h.2.1⟩)]

theorem fpull_l1 (l : List Fi) (r : List Fr) (i : Nat) (hi : i < r.length) (hk : ∀ j, j < l.length → KeptAt l j) (hl : l.length < 1000000) (acc : List Int) (ha : acc.length < 1000000) (hi2 : i < 1000000) (m : Nat) : ∀ d j, j + d = l.length →
    spec_FlightPull.l1 (m + 1 + d) l r acc (i : Int) (encP (pickTo (l.map itF) (rlF (r.getD i z45)) j)) (j : Int) = spec_FlightPull.l0 m l r (acc ++ [encP (pick (l.map itF) (rlF (r.getD i z45)))]) ((i + 1 : Nat) : Int)
  | 0, j, h => by
    rw [show m + 1 + 0 = m + 1 from rfl, spec_FlightPull.l1, if_neg (by omega), if_pos (by omega), wrap_next i (by omega)]
    have : j = (l.map itF).length := by simp; omega
    rw [pick, this]
  | d + 1, j, h => by
    have hj : j < l.length := by omega
    have ih := fpull_l1 l r i hi hk hl acc ha hi2 m d (j + 1) (by omega)
    rw [show m + 1 + (d + 1) = (m + 1 + d) + 1 from rfl, spec_FlightPull.l1, if_pos (by omega), if_pos (by omega), if_pos (by omega), if_pos (by omega), wrap_next j (by omega)]
    have e1 : rd_T62 l (j : Int) = l.getD j z62 := by simp [rd_T62]
    have e2 : rd_T45 r (i : Int) = r.getD i z45 := by simp [rd_T45]
    rw [e1, e2]
    rw [pickTo_succ l _ hk j hj] at ih
    by_cases h1 : (l.getD j z62).f3 = (r.getD i z45).f0
    · by_cases h2 : (l.getD j z62).f1 = (r.getD i z45).f1
      · by_cases h3 : (l.getD j z62).f4 = (r.getD i z45).f2
        · rw [if_pos ⟨h1, h2, h3⟩] at ih
          rw [if_pos h1, if_pos h2, if_pos (by simpa using h3)]
          exact ih
        · rw [if_neg (fun h => h3 h.2.2)] at ih
          rw [if_pos h1, if_pos h2, if_neg (by simpa using h3)]
          exact ih
      · rw [if_neg (fun h => h2 h.2.1)] at ih
        rw [if_pos h1, if_neg h2]
        exact ih
    · rw [if_neg (fun h => h1 h.1)] at ih
      rw [if_neg h1]
      exact ih
def picksF (l : List Fi) (r : List Fr) : List Int := r.map fun x => encP (pick (l.map itF) (rlF x))
theorem fpull_l0 (l : List Fi) (r : List Fr) (hk : ∀ j, j < l.length → KeptAt l j) (hl : l.length < 1000000) (hr : r.length < 1000000) : ∀ d i acc n, i + d = r.length → acc.length = i →
    spec_FlightPull.l0 (n + d * (l.length + 2) + 1) l r acc (i : Int) = some (acc ++ (picksF l r).drop i)
  | 0, i, acc, n, h, ha => by
    rw [Nat.zero_mul, spec_FlightPull.l0, if_neg (by omega), List.drop_eq_nil_of_le (by simp [picksF]; omega), List.append_nil]
  | d + 1, i, acc, n, h, ha => by
    have hi : i < r.length := by omega
    rw [spec_FlightPull.l0, if_pos (by omega)]
    have e0 : n + (d + 1) * (l.length + 2) = (n + d * (l.length + 2) + 1) + 1 + l.length := by rw [Nat.add_mul]; omega
    have h1 := fpull_l1 l r i hi hk hl acc (by omega) (by omega) (n + d * (l.length + 2) + 1) l.length 0 (by omega)
    rw [e0]
    refine h1.trans ?_
    rw [fpull_l0 l r hk hl hr d (i + 1) _ n (by omega) (by simp [ha])]
    have e2 : (picksF l r).drop i = encP (pick (l.map itF) (rlF (r.getD i z45))) :: (picksF l r).drop (i + 1) := by
      rw [List.drop_eq_getElem_cons (by simp [picksF]; omega)]
      simp [picksF, hi]
    rw [e2, List.append_assoc]
    rfl
theorem fpull_f (l : List Fi) (r : List Fr) (hk : KeptP l) (hr : r.length ≤ 60) (n : Nat) : spec_FlightPull.f (n + r.length * (l.length + 2) + 1) l r = some (picksF l r) := by
  have := fpull_l0 l r hk.2 (by have := hk.1; omega) (by omega) r.length 0 [] n (by omega) rfl
  simpa [spec_FlightPull.f] using this

theorem fmerge_l0 (l : List Fi) (r : List Fr) (hk : KeptP l) (hr : r.length ≤ 60) (m : Nat) : ∀ d i, i + d = r.length →
    spec_FlightMerge.l0 (m + d + 1) l (strOfNums (mergeTo (l.map itF) (r.map rlF) i)) (picksF l r) (i : Int) = some (strOfNums (mergeTo (l.map itF) (r.map rlF) r.length))
  | 0, i, h => by
    rw [spec_FlightMerge.l0, if_neg (by simp [picksF]; omega)]
    rw [show i = r.length by omega]
  | d + 1, i, h => by
    have hi : i < r.length := by omega
    have ih := fmerge_l0 l r hk hr m d (i + 1) (by omega)
    have hdat : ∀ x, x ∈ l.map itF → x.dat.length ≤ 2000 := by
      intro x hx
      obtain ⟨y, hy, rfl⟩ := List.mem_map.1 hx
      obtain ⟨q, hq, rfl⟩ := List.mem_iff_getElem.1 hy
      have := (hk.2 q hq).1
      rw [show l.getD q z62 = l[q] by simp [hq]] at this
      simpa [itF, bytesOf_length] using this
    have hml := mergeTo_le hdat (r.map rlF) i
    have e1 : rd (picksF l r) (i : Int) = encP (pick (l.map itF) (rlF r[i])) := by simp [rd, picksF, hi]
    have e3 : (r.map rlF).getD i z96 = rlF r[i] := by simp [hi]
    rw [show m + (d + 1) + 1 = (m + d + 1) + 1 from rfl, spec_FlightMerge.l0, if_pos (by simp [picksF]; omega), if_pos (by omega), e1, wrap_next i (by omega)]
    rw [mergeTo, e3] at ih
    cases hp : pick (l.map itF) (rlF r[i]) with
    | none =>
      rw [hp] at ih
      rw [if_neg (by simp [encP])]
      simpa [datOf] using ih
    | some k =>
      have hkl : k < l.length := by have := (pickTo_lt _ _ _ _ hp).2; simpa using this
      rw [hp] at ih
      have e4 : rd_T62 l (encP (some k)) = l[k] := by simp [rd_T62, encP, hkl]
      have e5 : datOf (l.map itF) (some k) = bytesOf l[k].f0 := by simp [datOf, hkl, itF]
      rw [e5, str_append, str_bytes] at ih
      have h6 : l[k].f0.size ≤ 2000 := by
        have := (hk.2 k hkl).1
        rwa [show l.getD k z62 = l[k] by simp [hkl]] at this
      have h7 : i * 2000 ≤ 60 * 2000 := Nat.mul_le_mul_right _ (by omega)
      rw [if_pos (by simp [encP]), if_pos (by simp [encP]), if_pos (by simp [encP]; omega), e4, if_pos (by rw [strOfNums_size]; omega)]
      exact ih
theorem fmerge_f (l : List Fi) (r : List Fr) (hk : KeptP l) (hr : r.length ≤ 60) : spec_FlightMerge.f (r.length + r.length * (l.length + 2) + 1) l r = some (strOfNums (mergeTo (l.map itF) (r.map rlF) r.length)) := by
  rw [spec_FlightMerge.f, fpull_f l r hk hr r.length, Option.bind_some]
  have := fmerge_l0 l r hk hr (r.length * (l.length + 2)) r.length 0 (by omega)
  rw [show r.length + r.length * (l.length + 2) + 1 = r.length * (l.length + 2) + r.length + 1 by omega]
  exact this
end Go.Proofs.YtmkbebincjppnaaGreatDoor
