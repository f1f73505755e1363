/- The toy hash is total, and the reference's is the same; what the law's small guards answer. -/
import Derived.Test.YtmkbebincjppnaaGreatDoorPSesx1
import Derived.Test.YtmkbebincjppnaaGreatDoorPSesx2
import Derived.Test.YtmkbebincjppnaaGreatDoorPSesx5
namespace Go.Proofs.YtmkbebincjppnaaGreatDoor
open Go.RowKit Go.Proofs.YtmkbebincjppnaaGreatDoorW.PrintWords Go.Proofs.YtmkbebincjppnaaGreatDoorW.PrintLast Go.Proofs.YtmkbebincjppnaaGreatDoorW.PrintMore Go.Proofs.YtmkbebincjppnaaGreatDoor.PSes
set_option linter.unusedVariables false
set_option linter.unusedSimpArgs false

theorem wrap_step (i : Nat) (h : i < 9223372036854775807) : wrap64 ((i : Int) + 1) = ((i + 1 : Nat) : Int) := by
  unfold wrap64
  omega
theorem wrap_id (x : Int) (h0 : -9223372036854775808 ≤ x) (h1 : x ≤ 9223372036854775807) : wrap64 x = x := by
  unfold wrap64
  omega
theorem sum_same : ∀ k, (∀ a b c d e, toy_Sum.l0 k a b c d e = spec_ToySum.l0 k a b c d e) ∧ (∀ a b c d, toy_Sum.l1 k a b c d = spec_ToySum.l1 k a b c d) ∧ (∀ a b c, toy_Sum.l2 k a b c = spec_ToySum.l2 k a b c)
  | 0 => ⟨fun _ _ _ _ _ => by rw [toy_Sum.l0, spec_ToySum.l0], fun _ _ _ _ => by rw [toy_Sum.l1, spec_ToySum.l1], fun _ _ _ => by rw [toy_Sum.l2, spec_ToySum.l2]⟩
  | k + 1 => by
    obtain ⟨h0, h1, h2⟩ := sum_same k
    refine ⟨fun a b c d e => ?_, fun a b c d => ?_, fun a b c => ?_⟩
    · rw [toy_Sum.l0, spec_ToySum.l0, h1]
      simp only [h0]
    · rw [toy_Sum.l1, spec_ToySum.l1, h2]
      simp only [h1]
    · rw [toy_Sum.l2, spec_ToySum.l2]
      simp only [h2]
theorem sum_f (k : Nat) (a : Int) (s : ByteArray) : spec_ToySum.f k a s = toy_Sum.f k a s := by
  unfold spec_ToySum.f toy_Sum.f spec_ToySize.f toy_Size.f
  simp only [(sum_same k).1]
theorem size_k : ∀ a : Fin 64, toy_Size.f (a.val : Int) = some ((4 + 4 * (a.val % 8) : Nat) : Int) := by decide +kernel

set_option maxHeartbeats 1000000 in
theorem tot_l2 (n : Nat) (h4 : 4 ≤ n) (h32 : n ≤ 32) (m : Nat) : ∀ d (j : Nat) (st : List Int), st.length = n → j + d = 2 * n → ∃ r, toy_Sum.l2 (m + d + 1) (n : Int) st (j : Int) = some r ∧ r.size = n
  | 0, j, st, hl, h => ⟨_, by rw [toy_Sum.l2, wrap_id _ (by omega) (by omega), if_neg (by omega)], by rw [strOfNums_size]; exact hl⟩
  | d + 1, j, st, hl, h => by
    have e1 : wrap64 (2 * (n : Int)) = 2 * n := wrap_id _ (by omega) (by omega)
    have hm := Nat.mod_lt j (show 0 < n by omega)
    obtain ⟨a, ha⟩ : ∃ a, a = j % n := ⟨_, rfl⟩
    have t0 : Int.tmod (j : Int) (n : Int) = (a : Int) := by rw [ha]; rfl
    have e2 : wrap64 (wrap64 ((a : Int) + n) - 1) = ((a + n - 1 : Nat) : Int) := by
      rw [← ha] at hm
      rw [wrap_id ((a : Int) + n) (by omega) (by omega), wrap_id _ (by omega) (by omega)]
      omega
    have hm2 := Nat.mod_lt (a + n - 1) (show 0 < n by omega)
    obtain ⟨b, hb⟩ : ∃ b, b = (a + n - 1) % n := ⟨_, rfl⟩
    have t1 : Int.tmod ((a + n - 1 : Nat) : Int) (n : Int) = (b : Int) := by rw [hb]; rfl
    rw [← ha] at hm
    rw [← hb] at hm2
    rw [show m + (d + 1) + 1 = (m + d + 1) + 1 by omega, toy_Sum.l2, if_pos (by rw [e1]; omega), if_neg (by omega)]
    simp only [t0, e2, t1]
    rw [if_pos (by omega), if_pos (by rw [hl]; omega), if_pos (by omega), if_pos (by rw [hl]; omega), wrap_step j (by omega)]
    exact tot_l2 n h4 h32 m d (j + 1) _ (by simp [hl]) (by omega)
set_option maxHeartbeats 1000000 in
theorem tot_l1 (n : Nat) (h4 : 4 ≤ n) (h32 : n ≤ 32) (s : ByteArray) (hs : s.size ≤ 100000000) (m : Nat) (hm : 2 * n + 1 ≤ m) : ∀ d (j : Nat) (st : List Int), st.length = n → j + d = s.size → ∃ r, toy_Sum.l1 (m + d + 1) s (n : Int) st (j : Int) = some r ∧ r.size = n
  | 0, j, st, hl, h => by
    rw [toy_Sum.l1, if_neg (by omega)]
    obtain ⟨q, rfl⟩ : ∃ q, m = q + 2 * n + 1 := ⟨m - 2 * n - 1, by omega⟩
    exact tot_l2 n h4 h32 q (2 * n) 0 st hl (by omega)
  | d + 1, j, st, hl, h => by
    have hmn := Nat.mod_lt j (show 0 < n by omega)
    obtain ⟨a, ha⟩ : ∃ a, a = j % n := ⟨_, rfl⟩
    have t0 : Int.tmod (j : Int) (n : Int) = (a : Int) := by rw [ha]; rfl
    have e2 : wrap64 ((a : Int) + 1) = ((a + 1 : Nat) : Int) := by
      rw [← ha] at hmn
      rw [wrap_id _ (by omega) (by omega)]
      omega
    have hm2 := Nat.mod_lt (a + 1) (show 0 < n by omega)
    obtain ⟨b, hb⟩ : ∃ b, b = (a + 1) % n := ⟨_, rfl⟩
    have t1 : Int.tmod ((a + 1 : Nat) : Int) (n : Int) = (b : Int) := by rw [hb]; rfl
    rw [← ha] at hmn
    rw [← hb] at hm2
    rw [show m + (d + 1) + 1 = (m + d + 1) + 1 by omega, toy_Sum.l1, if_pos (by omega), if_neg (by omega)]
    simp only [t0, e2, t1]
    rw [if_pos (by omega), if_pos (by rw [hl]; omega), if_pos (by omega), if_pos (by omega), if_pos (by rw [hl]; omega), wrap_step j (by omega)]
    exact tot_l1 n h4 h32 s hs m hm d (j + 1) _ (by simp [hl]) (by omega)
set_option maxHeartbeats 1000000 in
theorem tot_l0 (n : Nat) (h4 : 4 ≤ n) (h32 : n ≤ 32) (kind : Int) (s : ByteArray) (hs : s.size ≤ 100000000) (m : Nat) (hm : s.size + 2 * n + 2 ≤ m) : ∀ d (j : Nat) (st : List Int), st.length = n → j + d = n → ∃ r, toy_Sum.l0 (m + d + 1) kind s (n : Int) st (j : Int) = some r ∧ r.size = n
  | 0, j, st, hl, h => by
    rw [toy_Sum.l0, if_neg (by omega)]
    obtain ⟨q, rfl⟩ : ∃ q, m = q + s.size + 1 := ⟨m - s.size - 1, by omega⟩
    exact tot_l1 n h4 h32 s hs q (by omega) s.size 0 st hl (by omega)
  | d + 1, j, st, hl, h => by
    rw [show m + (d + 1) + 1 = (m + d + 1) + 1 by omega, toy_Sum.l0, if_pos (by omega), if_pos (by omega), if_pos (by rw [hl]; omega), wrap_step j (by omega)]
    exact tot_l0 n h4 h32 kind s hs m hm d (j + 1) _ (by simp [hl]) (by omega)
def tsum (kind : Int) (s : ByteArray) : ByteArray := (toy_Sum.f (s.size + 200) kind s).getD ⟨#[]⟩
theorem tsum_f (kind : Int) (s : ByteArray) (h0 : 0 ≤ kind) (h1 : kind < 64) (hs : s.size ≤ 100000000) : ∃ k, toy_Sum.f k kind s = some (tsum kind s) ∧ (tsum kind s).size ≤ 1000 := by
  obtain ⟨a, rfl⟩ : ∃ a : Fin 64, kind = (a.val : Int) := ⟨⟨kind.toNat, by omega⟩, by simp; omega⟩
  have hz := size_k a
  obtain ⟨n, hn⟩ : ∃ n, n = 4 + 4 * (a.val % 8) := ⟨_, rfl⟩
  rw [← hn] at hz
  obtain ⟨q, hq⟩ : ∃ q, s.size + 200 = q + n + 1 := ⟨s.size + 200 - n - 1, by omega⟩
  obtain ⟨r, hr, hrs⟩ := tot_l0 n (by omega) (by omega) (a.val : Int) s hs q (by omega) n 0 (List.replicate n 0) (by simp) (by omega)
  have e : toy_Sum.f (s.size + 200) (a.val : Int) s = some r := by
    rw [toy_Sum.f, hz, Option.bind_some, if_pos (by omega), if_pos (by simp; omega), hq]
    simpa using hr
  have e2 : tsum (a.val : Int) s = r := by rw [tsum, e]; rfl
  exact ⟨_, by rw [e2]; exact e, by rw [e2, hrs]; omega⟩
theorem keyhash_f (kind : Int) : ∃ b, spec_KeyHash.f kind = some b ∧ (b = true → 0 ≤ kind ∧ kind < 64) := by
  unfold spec_KeyHash.f
  by_cases h0 : kind ≥ 0
  · by_cases h1 : kind < 64
    · rw [if_pos h0, if_pos h1]
      exact ⟨_, rfl, fun _ => ⟨h0, h1⟩⟩
    · rw [if_pos h0, if_neg h1]
      exact ⟨false, rfl, fun h => by cases h⟩
  · rw [if_neg h0]
    exact ⟨false, rfl, fun h => by cases h⟩
theorem few_l0 (l : List ByteArray) (hl : l.length ≤ 9223372036854775807) : ∀ d i, i + d = l.length → ∃ b, laws_few.l0 (d + 1) l (l.length : Int) (i : Int) = some b ∧ (b = true → ∀ j, i ≤ j → j < l.length → (l.getD j ⟨#[]⟩).size ≤ 2000)
  | 0, i, h => ⟨true, by rw [laws_few.l0, if_neg (by omega)], fun _ j h1 h2 => by omega⟩
  | d + 1, i, h => by
    obtain ⟨b, hb, hc⟩ := few_l0 l hl d (i + 1) (by omega)
    rw [laws_few.l0, if_pos (by omega), if_pos (by omega), if_pos (by omega), wrap_step i (by omega)]
    by_cases h1 : ((rdOf ByteArray.empty l (i : Int)).size : Int) > 2000
    · rw [if_pos h1]
      exact ⟨false, rfl, fun h => by cases h⟩
    · rw [if_neg h1]
      refine ⟨b, hb, fun ht j h2 h3 => ?_⟩
      by_cases e : j = i
      · subst e
        have e1 : rdOf ByteArray.empty l (j : Int) = l.getD j ⟨#[]⟩ := by simp [rdOf, h3]
        rw [e1] at h1
        omega
      · exact hc ht j (by omega) h3
theorem few_f (l : List ByteArray) (hl : l.length ≤ 9223372036854775807) : ∃ k b, laws_few.f k l = some b ∧ (b = true → ∀ s, s ∈ l → s.size ≤ 2000) := by
  obtain ⟨b, hb, hc⟩ := few_l0 l hl l.length 0 (by omega)
  refine ⟨_, b, hb, fun ht s hs => ?_⟩
  obtain ⟨j, hj, rfl⟩ := List.getElem_of_mem hs
  have := hc ht j (by omega) hj
  rwa [show l.getD j ⟨#[]⟩ = l[j] by simp [hj]] at this
theorem fits3_l0 (l : List ByteArray) (hl : l.length ≤ 2147483647) : ∀ d i, i + d = l.length → ∃ b, laws_zzFits3.l0 (d + 1) l (l.length : Int) (i : Int) = some b
  | 0, i, h => ⟨true, by rw [laws_zzFits3.l0, if_neg (by omega)]⟩
  | d + 1, i, h => by
    obtain ⟨b, hb⟩ := fits3_l0 l hl d (i + 1) (by omega)
    rw [laws_zzFits3.l0, if_pos (by omega), if_pos (by omega), if_pos (by omega), wrap_step i (by omega)]
    split
    · exact ⟨false, rfl⟩
    · exact ⟨b, hb⟩
theorem fits3_f (l : List ByteArray) : ∃ k b, laws_zzFits3.f k l = some b ∧ (b = true → l.length ≤ 2147483647) := by
  by_cases h : (l.length : Int) > 2147483647
  · exact ⟨0, false, by rw [laws_zzFits3.f, if_pos h], fun h => by cases h⟩
  · obtain ⟨b, hb⟩ := fits3_l0 l (by omega) l.length 0 (by omega)
    exact ⟨_, b, by rw [laws_zzFits3.f, if_neg h]; exact hb, fun _ => by omega⟩
end Go.Proofs.YtmkbebincjppnaaGreatDoor
