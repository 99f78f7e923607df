import Derived.Test.YbulkbrrwHeapDefs
namespace Go.Proofs.Ybulkbrrw

theorem getD_swapL (xs : List Nat) (i j k : Nat) (hi : i < xs.length) (hj : j < xs.length) : (swapL xs i j).getD k 0 = if k = j then xs.getD i 0 else if k = i then xs.getD j 0 else xs.getD k 0 := by
  unfold swapL
  rw [List.getD_eq_getElem?_getD, List.getElem?_set, List.getElem?_set]
  simp only [List.length_set]
  by_cases h1 : j = k
  · subst h1; simp [hj, hi]
  · rw [if_neg h1, if_neg (Ne.symm h1)]
    by_cases h2 : i = k
    · subst h2; simp [hi, hj]
    · rw [if_neg h2, if_neg (Ne.symm h2)]; simp

theorem swapL_perm (xs : List Nat) (i j : Nat) (hi : i < xs.length) (hj : j < xs.length) : (swapL xs i j).Perm xs := by
  have h := List.set_set_perm (as := xs) hi hj
  unfold swapL
  rw [List.getD_eq_getElem?_getD, List.getD_eq_getElem?_getD, List.getElem?_eq_getElem hi, List.getElem?_eq_getElem hj]
  exact h

theorem upF_perm (lt : Nat → Nat → Bool) : ∀ (f : Nat) (xs : List Nat) (j : Nat), j < xs.length → (upF lt f xs j).Perm xs := by
  intro f
  induction f with
  | zero => intro xs j _; exact .refl _
  | succ f ih =>
    intro xs j hj
    rw [upF]
    split
    · exact .refl _
    · refine (ih _ _ ?_).trans (swapL_perm xs _ _ (by omega) hj)
      rw [length_swapL]; omega

theorem childF_lt (lt : Nat → Nat → Bool) (xs : List Nat) (i n : Nat) (h : 2 * i + 1 < n) : childF lt xs i n < n ∧ (childF lt xs i n = 2 * i + 1 ∨ childF lt xs i n = 2 * i + 2) := by
  unfold childF
  split <;> omega

theorem downF_perm (lt : Nat → Nat → Bool) (n : Nat) : ∀ (f : Nat) (xs : List Nat) (i : Nat), n ≤ xs.length → (downF lt f xs i n).1.Perm xs ∧ ∀ k, n ≤ k → (downF lt f xs i n).1[k]? = xs[k]? := by
  intro f
  induction f with
  | zero => intro xs i _; exact ⟨.refl _, fun _ _ => rfl⟩
  | succ f ih =>
    intro xs i hn
    rw [downF]
    split
    · exact ⟨.refl _, fun _ _ => rfl⟩
    · rename_i h
      have hlt : 2 * i + 1 < n := by
        apply Nat.lt_of_not_le; intro e; exact h (.inl e)
      have hc := childF_lt lt xs i n hlt
      obtain ⟨h1, h2⟩ := ih (swapL xs i (childF lt xs i n)) (childF lt xs i n) (by rw [length_swapL]; exact hn)
      refine ⟨h1.trans (swapL_perm xs _ _ (by omega) (by omega)), fun k hk => ?_⟩
      rw [h2 k hk, swapL, List.getElem?_set_ne (by omega), List.getElem?_set_ne (by omega)]

/-- The first n places are a heap. -/
def HeapN (k : Nat → Int) (xs : List Nat) (n : Nat) : Prop := ∀ i, 0 < i → i < n → k (xs.getD ((i - 1) / 2) 0) ≤ k (xs.getD i 0)

/-- A heap but for place p, whose own value may be too great. -/
def HoleD (k : Nat → Int) (xs : List Nat) (n p : Nat) : Prop :=
  (∀ i, 0 < i → i < n → (i - 1) / 2 ≠ p → k (xs.getD ((i - 1) / 2) 0) ≤ k (xs.getD i 0)) ∧
  (∀ i, 0 < i → i < n → (i - 1) / 2 = p → 0 < p → k (xs.getD ((p - 1) / 2) 0) ≤ k (xs.getD i 0))

theorem downF_heap (k : Nat → Int) (lt : Nat → Nat → Bool) (hlt : ∀ a b, lt a b = decide (k a < k b)) (n : Nat) : ∀ (f : Nat) (xs : List Nat) (p : Nat), n ≤ xs.length → n ≤ p + f → HoleD k xs n p → HeapN k (downF lt f xs p n).1 n := by
  intro f
  induction f with
  | zero =>
    intro xs p hn hf h i h0 hi
    exact h.1 i h0 hi (by omega)
  | succ f ih =>
    intro xs p hn hf h
    rw [downF]
    by_cases hq : n ≤ 2 * p + 1
    · rw [if_pos (.inl hq)]
      intro i h0 hi
      exact h.1 i h0 hi (by omega)
    · have hc := childF_lt lt xs p n (by omega)
      obtain ⟨c, hcd⟩ : ∃ c, c = childF lt xs p n := ⟨_, rfl⟩
      have hmin : ∀ i, i < n → (i = 2 * p + 1 ∨ i = 2 * p + 2) → k (xs.getD c 0) ≤ k (xs.getD i 0) := by
        intro i hi hor
        rw [hcd]; unfold childF
        split
        · rename_i hh
          rw [hlt] at hh
          have := of_decide_eq_true hh.2
          rcases hor with rfl | rfl <;> omega
        · rename_i hh
          rcases hor with rfl | rfl
          · exact Int.le_refl _
          · have hn2 : ¬ lt (xs.getD (2 * p + 2) 0) (xs.getD (2 * p + 1) 0) = true := fun e => hh ⟨hi, e⟩
            rw [hlt] at hn2
            have : ¬ k (xs.getD (2 * p + 2) 0) < k (xs.getD (2 * p + 1) 0) := fun e => hn2 (decide_eq_true e)
            omega
      rw [← hcd] at hc ⊢
      by_cases hl : lt (xs.getD c 0) (xs.getD p 0) = false
      · rw [if_pos (.inr hl)]
        intro i h0 hi
        by_cases hp : (i - 1) / 2 = p
        · have h1 := hmin i hi (by omega)
          rw [hlt] at hl
          have h2 := of_decide_eq_false hl
          show k (xs.getD ((i - 1) / 2) 0) ≤ k (xs.getD i 0)
          rw [hp]; omega
        · exact h.1 i h0 hi hp
      · rw [if_neg (by rintro (e | e); exact hq e; exact hl e)]
        have hl' : k (xs.getD c 0) < k (xs.getD p 0) := by
          rw [hlt] at hl
          exact Classical.byContradiction fun e => hl (decide_eq_false e)
        refine ih _ c (by rw [length_swapL]; exact hn) (by omega) ⟨?_, ?_⟩
        · intro i h0 hi hne
          rw [getD_swapL xs p c _ (by omega) (by omega), getD_swapL xs p c _ (by omega) (by omega)]
          rw [if_neg hne]
          by_cases hpp : (i - 1) / 2 = p
          · rw [if_pos hpp]
            by_cases hic : i = c
            · rw [if_pos hic]; omega
            · rw [if_neg hic, if_neg (by omega)]
              exact hmin i hi (by omega)
          · rw [if_neg hpp]
            have hic : i ≠ c := by rintro rfl; omega
            rw [if_neg hic]
            by_cases hip : i = p
            · subst hip
              rw [if_pos rfl]
              exact h.2 c (by omega) (by omega) (by omega) h0
            · rw [if_neg hip]
              exact h.1 i h0 hi hpp
        · intro i h0 hi hpc hc0
          have e1 : (c - 1) / 2 = p := by omega
          rw [e1, getD_swapL xs p c _ (by omega) (by omega), getD_swapL xs p c _ (by omega) (by omega)]
          rw [if_neg (by omega), if_pos rfl, if_neg (by omega), if_neg (by omega)]
          have := h.1 i h0 hi (by omega)
          rw [hpc] at this
          exact this

/-- A heap but for place j, whose own value may be too small. -/
def HoleU (k : Nat → Int) (xs : List Nat) (n j : Nat) : Prop :=
  (∀ i, 0 < i → i < n → i ≠ j → k (xs.getD ((i - 1) / 2) 0) ≤ k (xs.getD i 0)) ∧
  (∀ i, 0 < i → i < n → (i - 1) / 2 = j → 0 < j → k (xs.getD ((j - 1) / 2) 0) ≤ k (xs.getD i 0))

theorem upF_heap (k : Nat → Int) (lt : Nat → Nat → Bool) (hlt : ∀ a b, lt a b = decide (k a < k b)) : ∀ (f : Nat) (xs : List Nat) (j : Nat), j < xs.length → j < f → HoleU k xs xs.length j → HeapN k (upF lt f xs j) xs.length := by
  intro f
  induction f with
  | zero => intro xs j _ hf; omega
  | succ f ih =>
    intro xs j hj hf h
    rw [upF]
    by_cases h0 : j = 0
    · subst h0
      rw [if_pos (.inl rfl)]
      intro i hi hn
      exact h.1 i hi hn (by omega)
    · by_cases hl : lt (xs.getD j 0) (xs.getD ((j - 1) / 2) 0) = false
      · rw [if_pos (.inr hl)]
        intro i hi hn
        by_cases e : i = j
        · subst e
          rw [hlt] at hl
          have := of_decide_eq_false hl
          omega
        · exact h.1 i hi hn e
      · rw [if_neg (by rintro (e | e); omega; exact hl e)]
        have hl' : k (xs.getD j 0) < k (xs.getD ((j - 1) / 2) 0) := by
          rw [hlt] at hl
          exact Classical.byContradiction fun e => hl (decide_eq_false e)
        obtain ⟨p, hp⟩ : ∃ p, p = (j - 1) / 2 := ⟨_, rfl⟩
        rw [← hp] at hl' ⊢
        have := ih (swapL xs p j) p (by rw [length_swapL]; omega) (by omega) ?_
        · rw [length_swapL] at this; exact this
        · rw [length_swapL]
          refine ⟨?_, ?_⟩
          · intro i hi hn hne
            rw [getD_swapL xs p j _ (by omega) hj, getD_swapL xs p j _ (by omega) hj]
            by_cases hij : i = j
            · subst hij
              rw [← hp, if_neg (by omega), if_pos rfl, if_pos rfl]; omega
            · rw [if_neg hij, if_neg hne]
              by_cases hpj : (i - 1) / 2 = j
              · rw [if_pos hpj]
                have := h.2 i hi hn hpj (by omega)
                rw [← hp] at this
                exact this
              · rw [if_neg hpj]
                by_cases hpp : (i - 1) / 2 = p
                · rw [if_pos hpp]
                  have := h.1 i hi hn hij
                  rw [hpp] at this
                  omega
                · rw [if_neg hpp]
                  exact h.1 i hi hn hij
          · intro i hi hn hip hp0
            rw [getD_swapL xs p j _ (by omega) hj, getD_swapL xs p j _ (by omega) hj]
            rw [if_neg (by omega), if_neg (by omega)]
            have hpp := h.1 p hp0 (by omega) (by omega)
            by_cases hij : i = j
            · rw [if_pos hij]; exact hpp
            · rw [if_neg hij, if_neg (by omega)]
              have := h.1 i hi hn hij
              rw [hip] at this
              omega

/-- The first of a heap is the least. -/
theorem heap_min (k : Nat → Int) (xs : List Nat) (n : Nat) (h : HeapN k xs n) : ∀ i, i < n → k (xs.getD 0 0) ≤ k (xs.getD i 0) := by
  intro i
  induction i using Nat.strongRecOn with
  | _ i ih =>
    intro hi
    by_cases h0 : i = 0
    · subst h0; exact Int.le_refl _
    · have h1 := ih ((i - 1) / 2) (by omega) (by omega)
      have h2 := h i (by omega) hi
      omega

theorem getD_append_left (xs ys : List Nat) (i : Nat) (h : i < xs.length) : (xs ++ ys).getD i 0 = xs.getD i 0 := by
  rw [List.getD_eq_getElem?_getD, List.getElem?_append_left h, ← List.getD_eq_getElem?_getD]

theorem push_law (k : Nat → Int) (lt : Nat → Nat → Bool) (hlt : ∀ a b, lt a b = decide (k a < k b)) (xs : List Nat) (g : Nat) (h : HeapN k xs xs.length) :
    (upF lt (xs.length + 1) (xs ++ [g]) xs.length).Perm (xs ++ [g]) ∧ HeapN k (upF lt (xs.length + 1) (xs ++ [g]) xs.length) (upF lt (xs.length + 1) (xs ++ [g]) xs.length).length := by
  have hp := upF_perm lt (xs.length + 1) (xs ++ [g]) xs.length (by simp)
  refine ⟨hp, ?_⟩
  rw [hp.length_eq]
  refine upF_heap k lt hlt _ _ _ (by simp) (by omega) ⟨?_, ?_⟩
  · intro i hi hn hne
    simp at hn
    rw [getD_append_left _ _ _ (by omega), getD_append_left _ _ _ (by omega)]
    exact h i hi (by omega)
  · intro i hi hn hij hj
    simp at hn
    omega

theorem pop_law (k : Nat → Int) (lt : Nat → Nat → Bool) (hlt : ∀ a b, lt a b = decide (k a < k b)) (xs : List Nat) (n : Nat) (hn : xs.length = n + 1) (h : HeapN k xs xs.length) :
    ∃ ys g, (downF lt (xs.length - 1) (swapL xs 0 (xs.length - 1)) 0 (xs.length - 1)).1 = ys ++ [g] ∧ (ys ++ [g]).Perm xs ∧ HeapN k ys ys.length ∧ ∀ y, y ∈ ys → k g ≤ k y := by
  have e1 : xs.length - 1 = n := by omega
  rw [e1]
  obtain ⟨L, hL⟩ : ∃ L, L = swapL xs 0 n := ⟨_, rfl⟩
  have hLl : L.length = n + 1 := by rw [hL, length_swapL]; exact hn
  have hLp : L.Perm xs := by rw [hL]; exact swapL_perm xs 0 n (by omega) (by omega)
  have hLn : L[n]? = some (xs.getD 0 0) := by
    rw [hL, swapL, List.getElem?_set]
    simp [hn]
  obtain ⟨Z, hZ⟩ : ∃ Z, Z = (downF lt n L 0 n).1 := ⟨_, rfl⟩
  obtain ⟨hZp, hZk⟩ := downF_perm lt n n L 0 (by omega)
  have hZh := downF_heap k lt hlt n n L 0 (by omega) (by omega) ⟨by
    intro i h0 hi hne
    rw [hL, getD_swapL xs 0 n _ (by omega) (by omega), getD_swapL xs 0 n _ (by omega) (by omega), if_neg (by omega), if_neg hne, if_neg (by omega), if_neg (by omega)]
    exact h i h0 (by omega), by intro i _ _ _ h0; omega⟩
  rw [← hZ] at hZp hZk hZh
  rw [← hL, ← hZ]
  have hZl : Z.length = n + 1 := by rw [hZp.length_eq]; exact hLl
  have hZn : Z[n]? = some (xs.getD 0 0) := by rw [hZk n (Nat.le_refl _)]; exact hLn
  have hdec : Z = Z.take n ++ [xs.getD 0 0] := by
    have h1 := List.take_append_drop n Z
    have h2 : Z.drop n = [xs.getD 0 0] := by
      have h3 : (Z.drop n).length = 1 := by rw [List.length_drop]; omega
      have h4 : (Z.drop n)[0]? = some (xs.getD 0 0) := by rw [List.getElem?_drop]; exact hZn
      match hd : Z.drop n, h3, h4 with
      | [a], _, h4 => rw [List.getElem?_cons_zero, Option.some.injEq] at h4; rw [h4]
    rw [h2] at h1
    exact h1.symm
  refine ⟨Z.take n, xs.getD 0 0, hdec, ?_, ?_, ?_⟩
  · rw [← hdec]; exact hZp.trans hLp
  · intro i h0 hi
    rw [List.length_take] at hi
    have a1 : (Z.take n).getD ((i - 1) / 2) 0 = Z.getD ((i - 1) / 2) 0 := by
      rw [List.getD_eq_getElem?_getD, List.getElem?_take_of_lt (by omega), ← List.getD_eq_getElem?_getD]
    have a2 : (Z.take n).getD i 0 = Z.getD i 0 := by
      rw [List.getD_eq_getElem?_getD, List.getElem?_take_of_lt (by omega), ← List.getD_eq_getElem?_getD]
    rw [a1, a2]
    exact hZh i h0 (by omega)
  · intro y hy
    have : y ∈ xs := (hZp.trans hLp).mem_iff.1 (List.mem_of_mem_take hy)
    obtain ⟨i, hi, e⟩ := List.getElem_of_mem this
    have := heap_min k xs xs.length h i hi
    rw [List.getD_eq_getElem?_getD (i := i), List.getElem?_eq_getElem hi, e] at this
    exact this
end Go.Proofs.Ybulkbrrw
