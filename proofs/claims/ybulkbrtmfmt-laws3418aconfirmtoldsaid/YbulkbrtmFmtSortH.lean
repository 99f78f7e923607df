import Derived.Test.YbulkbrtmFmtSortG
set_option linter.unusedVariables false
set_option linter.unusedSimpArgs false
set_option maxHeartbeats 4000000
set_option maxRecDepth 1000000
namespace Go.Proofs.YbulkbrtmFmt
open Go.RowKit Go.Sort Go.Proofs

theorem len_calls' (n : Nat) (z : Int) (hz : z = (n : Int)) (hn : n < 4611686018427387904) (w : World) : Calls Ybaf.prog 25 #[.int .u64 z] w fun e w' => e = .returned (.int .i64 (bitsLen n : Nat)) ∧ w' = w := by
  subst hz; exact len_calls n hn w

/-- slices.Sort of a slice that has a block. -/
theorem sort_calls (blk off cap : Nat) (d : Array Int) (n : Nat) (hn : d.size = n) (w : World) (hH : Holds u64 w blk off d) (hblk : blk < w.heap.size) (hsz : d.size < 4611686018427387904) :
    Calls Ybaf.prog 13 #[.slice (some ⟨blk, off, none⟩) n cap] w fun e w' => e = .returned (.tuple #[]) ∧ At w blk off (Sort.sort ltInt d) w' := by
  subst hn
  have hl : bitsLen d.size < 4611686018427387904 := by
    have : bitsLen d.size ≤ 62 := (bitsLen_le_iff d.size 62).2 (by omega)
    omega
  have hc := pdqsort_calls (d.size + 1) blk off cap 0 d.size (bitsLen d.size) d w (by omega) hH hblk (by omega) (Nat.le_refl _) hsz hl (Or.inl rfl)
  have hL := len_calls d.size hsz
  go_enter Ybaf.func13, Ybaf.ntmps13
  go_wp2_with (first | (go_at_call 25; refine (hL _).mono ?_; rintro e w' ⟨rfl, rfl⟩) | (go_at_call 24; refine hc.mono ?_; rintro e w1 ⟨rfl, hw1⟩))
  go_end0
  exact ⟨rfl, hw1⟩

theorem insertion_nil (w : World) : Calls Ybaf.prog 35 #[.slice none 0 0, .int .i64 0, .int .i64 0] w fun e w' => e = .returned (.tuple #[]) ∧ w' = w := by
  go_enter Ybaf.func35, Ybaf.ntmps35
  go_wp2
  refine wp_loop_rounds 1 ?_
  rw [rounds_succ]
  go_wp2
  go_end0
  exact ⟨rfl, rfl⟩
theorem pdqsort_nil (w : World) (z : Int) : Calls Ybaf.prog 24 #[.slice none 0 0, .int .i64 0, .int .i64 0, .int .i64 z] w fun e w' => e = .returned (.tuple #[]) ∧ w' = w := by
  have hi := insertion_nil
  go_enter Ybaf.func24, Ybaf.ntmps24
  go_wp2
  refine wp_loop_rounds 1 ?_
  rw [rounds_succ]
  go_wp2_with (first | (go_at_call 35; refine (hi _).mono ?_; rintro e w' ⟨rfl, rfl⟩))
  (try simp only [Exit.inBlock, Exit.then]); refine bodyPost_ret (results_none rfl _ _ _) rfl ?_
  exact ⟨rfl, rfl⟩
theorem sort_nil (w : World) : Calls Ybaf.prog 13 #[.slice none 0 0] w fun e w' => e = .returned (.tuple #[]) ∧ w' = w := by
  have hL := len_calls' 0 0 rfl (by omega)
  have hp := pdqsort_nil
  go_enter Ybaf.func13, Ybaf.ntmps13
  go_wp2_with (first | (go_at_call 25; refine (hL _).mono ?_; rintro e w' ⟨rfl, rfl⟩) | (go_at_call 24; refine (hp _ _).mono ?_; rintro e w1 ⟨rfl, rfl⟩))
  go_end0
  exact ⟨rfl, rfl⟩

theorem sort_list (d : Array Int) : (Sort.sort ltInt d).toList = d.toList.mergeSort (fun x y => decide (x ≤ y)) := by
  have := sortInt d.toList
  simpa using this
theorem sort_size (d : Array Int) : (Sort.sort ltInt d).size = d.size := by
  have := congrArg List.length (sort_list d)
  simpa using this
theorem sort_perm (d : Array Int) : (Sort.sort ltInt d).toList.Perm d.toList := by
  rw [sort_list]; exact List.mergeSort_perm _ _
end Go.Proofs.YbulkbrtmFmt
