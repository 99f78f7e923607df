namespace Go.Proofs.Ybulkbrrw

/-- Two places of a list exchanged. -/
def swapL (xs : List Nat) (i j : Nat) : List Nat := (xs.set i (xs.getD j 0)).set j (xs.getD i 0)

/-- container/heap.up, on a list. -/
def upF (lt : Nat → Nat → Bool) : Nat → List Nat → Nat → List Nat
  | 0, xs, _ => xs
  | f + 1, xs, j => if (j - 1) / 2 = j ∨ lt (xs.getD j 0) (xs.getD ((j - 1) / 2) 0) = false then xs else upF lt f (swapL xs ((j - 1) / 2) j) ((j - 1) / 2)

/-- The child that container/heap.down looks at. -/
def childF (lt : Nat → Nat → Bool) (xs : List Nat) (i n : Nat) : Nat := if 2 * i + 2 < n ∧ lt (xs.getD (2 * i + 2) 0) (xs.getD (2 * i + 1) 0) = true then 2 * i + 2 else 2 * i + 1

/-- container/heap.down, on a list: the list, and where it has come to. -/
def downF (lt : Nat → Nat → Bool) : Nat → List Nat → Nat → Nat → List Nat × Nat
  | 0, xs, i, _ => (xs, i)
  | f + 1, xs, i, n => if n ≤ 2 * i + 1 ∨ lt (xs.getD (childF lt xs i n) 0) (xs.getD i 0) = false then (xs, i) else downF lt f (swapL xs i (childF lt xs i n)) (childF lt xs i n) n

theorem length_swapL (xs : List Nat) (i j : Nat) : (swapL xs i j).length = xs.length := by simp [swapL]

theorem upF_enough (lt : Nat → Nat → Bool) (j : Nat) : ∀ (f : Nat) (xs : List Nat), j < f → upF lt f xs j = upF lt (j + 1) xs j := by
  induction j using Nat.strongRecOn with
  | _ j ih =>
    intro f xs hf
    obtain ⟨f', rfl⟩ : ∃ f', f = f' + 1 := ⟨f - 1, by omega⟩
    rw [upF, upF]
    by_cases h : (j - 1) / 2 = j ∨ lt (xs.getD j 0) (xs.getD ((j - 1) / 2) 0) = false
    · rw [if_pos h, if_pos h]
    · rw [if_neg h, if_neg h]
      have hlt : (j - 1) / 2 < j := by
        have : (j - 1) / 2 ≠ j := fun e => h (.inl e)
        omega
      rw [ih _ hlt f' _ (by omega), ih _ hlt j _ hlt]

theorem downF_enough (lt : Nat → Nat → Bool) (n : Nat) : ∀ (f g : Nat) (xs : List Nat) (i : Nat), n ≤ i + f → n ≤ i + g → downF lt f xs i n = downF lt g xs i n := by
  intro f
  induction f with
  | zero =>
    intro g xs i h1 h2
    cases g with
    | zero => rfl
    | succ g => rw [downF, downF, if_pos (.inl (by omega))]
  | succ f ih =>
    intro g xs i h1 h2
    cases g with
    | zero => rw [downF, downF, if_pos (.inl (by omega))]
    | succ g =>
      rw [downF, downF]
      by_cases h : n ≤ 2 * i + 1 ∨ lt (xs.getD (childF lt xs i n) 0) (xs.getD i 0) = false
      · rw [if_pos h, if_pos h]
      · rw [if_neg h, if_neg h]
        have : i < childF lt xs i n := by unfold childF; split <;> omega
        exact ih g _ _ (by omega) (by omega)
end Go.Proofs.Ybulkbrrw
