import Derived.Test.YbulkbrrwBuildParts
namespace Go.Proofs.Ybulkbrrw
open Go.RowKit Go.Deep
set_option linter.unusedVariables false
set_option linter.unusedSimpArgs false

/-- The order while p is put in: it stands at place k. -/
def ins (o : List Nat) (p k t : Nat) : Nat := if t < k then o.getD t 0 else if t = k then p else o.getD (t - 1) 0

/-- The indices below p, in the order of their bases. -/
structure Ord (K : Nat → Nat) (p : Nat) (o : List Nat) : Prop where
  perm : o.Perm (List.range p)
  srt : o.Pairwise (fun a b => bs K a < bs K b)

theorem Ord.length {K : Nat → Nat} {p : Nat} {o : List Nat} (h : Ord K p o) : o.length = p := by rw [h.perm.length_eq, List.length_range]
theorem Ord.lt {K : Nat → Nat} {p : Nat} {o : List Nat} (h : Ord K p o) {t : Nat} (ht : t < p) : o.getD t 0 < p := by
  have hl := h.length
  rw [List.getD_eq_getElem?_getD, List.getElem?_eq_getElem (by omega)]
  exact List.mem_range.1 (h.perm.mem_iff.1 (by simp))

theorem bs_inj (K : Nat → Nat) {a b : Nat} (ha : a < 1000) (hb : b < 1000) (h : bs K a = bs K b) : a = b := by
  unfold bs at h; omega

/-- Put in at k: what stood before is smaller, what stands behind is greater. -/
theorem Ord.put {K : Nat → Nat} {p k : Nat} {o : List Nat} (h : Ord K p o) (hp : p < 1000) (hk : k ≤ p) (hlo : k = 0 ∨ bs K (o.getD (k - 1) 0) ≤ bs K p) (hhi : ∀ t, k ≤ t → t < p → bs K p < bs K (o.getD t 0)) :
    Ord K (p + 1) (o.take k ++ [p] ++ o.drop k) := by
  have hl := h.length
  have hsrt := h.srt
  rw [← List.take_append_drop k o, List.pairwise_append] at hsrt
  obtain ⟨s1, s2, s3⟩ := hsrt
  have hless : ∀ a, a ∈ o.take k → bs K a < bs K p := by
    intro a ha
    have hk0 : 0 < k := by
      apply Nat.pos_of_ne_zero; intro e; subst e; simp at ha
    rcases hlo with e | hlo
    · omega
    · have hap : a < p := List.mem_range.1 (h.perm.mem_iff.1 (List.mem_of_mem_take ha))
      have h1 : bs K a ≤ bs K (o.getD (k - 1) 0) := by
        obtain ⟨t, ht⟩ := List.mem_iff_getElem?.1 ha
        have htk : t < k := by have := (List.getElem?_eq_some_iff.1 ht).1; rw [List.length_take] at this; omega
        rw [List.getElem?_take_of_lt htk] at ht
        have hta : o[t]'(by omega) = a := by
          have := (List.getElem?_eq_some_iff.1 ht).2; exact this
        by_cases e : t = k - 1
        · rw [← e, List.getD_eq_getElem?_getD, ht]; exact Nat.le_refl _
        · have := List.pairwise_iff_getElem.1 h.srt t (k - 1) (by omega) (by omega) (by omega)
          rw [hta] at this
          rw [List.getD_eq_getElem?_getD, List.getElem?_eq_getElem (by omega)]
          exact Nat.le_of_lt this
      have hne : bs K a ≠ bs K p := fun e => by have := bs_inj K (by omega) hp e; omega
      omega
  have hgreat : ∀ a, a ∈ o.drop k → bs K p < bs K a := by
    intro a ha
    obtain ⟨t, ht⟩ := List.mem_iff_getElem?.1 ha
    rw [List.getElem?_drop] at ht
    have hlt := (List.getElem?_eq_some_iff.1 ht).1
    have := hhi (k + t) (by omega) (by omega)
    rw [List.getD_eq_getElem?_getD, ht] at this
    exact this
  refine ⟨?_, ?_⟩
  · rw [List.range_succ]
    have h1 : (o.take k ++ [p] ++ o.drop k).Perm (o.take k ++ o.drop k ++ [p]) := by
      rw [List.append_assoc, List.append_assoc]
      exact List.perm_append_comm.append_left _
    rw [List.take_append_drop] at h1
    exact h1.trans (h.perm.append_right _)
  · rw [List.pairwise_append, List.pairwise_append]
    refine ⟨⟨s1, by simp, ?_⟩, s2, ?_⟩
    · intro a ha b hb
      rw [List.mem_singleton] at hb
      subst hb
      exact hless a ha
    · intro a ha b hb
      rcases List.mem_append.1 ha with ha | ha
      · exact s3 a ha b hb
      · rw [List.mem_singleton] at ha
        subst ha
        exact hgreat b hb

theorem getD_put {K : Nat → Nat} {p k : Nat} {o : List Nat} (h : Ord K p o) (hk : k ≤ p) (t : Nat) (ht : t ≤ p) : (o.take k ++ [p] ++ o.drop k).getD t 0 = ins o p k t := by
  have hl := h.length
  unfold ins
  rw [List.getD_eq_getElem?_getD]
  by_cases h1 : t < k
  · rw [if_pos h1, List.append_assoc, List.getElem?_append_left (by rw [List.length_take]; omega), List.getElem?_take_of_lt h1, List.getD_eq_getElem?_getD]
  · rw [if_neg h1, List.append_assoc, List.getElem?_append_right (by rw [List.length_take]; omega)]
    have e : t - (o.take k).length = t - k := by rw [List.length_take, Nat.min_eq_left (by omega)]
    rw [e]
    by_cases h2 : t = k
    · rw [if_pos h2, h2, Nat.sub_self]; rfl
    · rw [if_neg h2, List.getElem?_append_right (by simp; omega), List.getElem?_drop, List.getD_eq_getElem?_getD]
      congr 2
      simp; omega

/-- What a walk hands out of group i. -/
def visI (K : Nat → Nat) (hs : List Bool) (i : Nat) : List Int := ((List.range (cnt K i)).takeWhile fun j => !hidF hs i j).map fun j => ((bs K i * 8 + j : Nat) : Int)

theorem range_takeWhile (p : Nat → Bool) (c j : Nat) (hj : j ≤ c) (h1 : ∀ t, t < j → p t = true) (h2 : j = c ∨ p j = false) : (List.range c).takeWhile p = List.range j := by
  have e : (List.range c).take j = List.range j := by rw [List.take_range, Nat.min_eq_left hj]
  rw [← e]
  refine takeWhile_stop p (List.range c) j (fun m hm => ?_) (fun m hm => ?_)
  · rw [e] at hm; exact h1 m (List.mem_range.1 hm)
  · have hlt := (List.getElem?_eq_some_iff.1 hm).1
    rw [List.length_range] at hlt
    rw [List.getElem?_range hlt] at hm
    simp at hm
    subst hm
    rcases h2 with e | e
    · omega
    · exact e

theorem visI_len (K : Nat → Nat) (hs : List Bool) (i : Nat) : (visI K hs i).length ≤ 5 := by
  unfold visI
  rw [List.length_map]
  have := (List.takeWhile_sublist (fun j => !hidF hs i j) (l := List.range (cnt K i))).length_le
  rw [List.length_range] at this
  have hc : cnt K i ≤ 5 := by unfold cnt; omega
  omega
end Go.Proofs.Ybulkbrrw
