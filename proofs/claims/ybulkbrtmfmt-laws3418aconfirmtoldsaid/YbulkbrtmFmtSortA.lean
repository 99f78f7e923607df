import Derived.Test.YbulkbrtmFmtRows
import Derived.Test.YbulkbrtmFmtRow
import Derived.Sort.WalkA6
set_option linter.unusedVariables false
set_option linter.unusedSimpArgs false
set_option maxHeartbeats 2000000
set_option maxRecDepth 100000
namespace Go.Proofs.YbulkbrtmFmt
open Go.RowKit Go.Sort Go.Proofs

theorem isNaN_calls (x : Int) (w : World) : Calls Ybaf.prog 47 #[.int .u64 x] w fun e w' => e = .returned (.bool false) ∧ w' = w := by
  go_enter Ybaf.func47, Ybaf.ntmps47
  go_wp2
  go_ret
  exact ⟨by simp, rfl⟩

theorem less_calls (x y : Int) (w : World) : Calls Ybaf.prog 33 #[.int .u64 x, .int .u64 y] w fun e w' => e = .returned (.bool (ltInt x y)) ∧ w' = w := by
  go_enter Ybaf.func33, Ybaf.ntmps33
  go_wp2_with (go_at_call 47; refine (isNaN_calls _ _).mono ?_; rintro e w' ⟨rfl, rfl⟩)
  go_ret
  exact ⟨rfl, rfl⟩

theorem insertion_calls (blk off cap a b : Nat) (d : Array Int) (w : World) (hH : Holds u64 w blk off d) (hblk : blk < w.heap.size) (hab : a ≤ b) (hb : b ≤ d.size) (hsz : d.size < 4611686018427387904) :
    Calls Ybaf.prog 35 #[.slice (some ⟨blk, off, none⟩) d.size cap, .int .i64 a, .int .i64 b] w fun e w' =>
      e = .returned (.tuple #[]) ∧ At w blk off (Sort.insertionSort ltInt d a b) w' := by
  have hA0 := At.start hH hblk
  clear hH
  go_enter Ybaf.func35, Ybaf.ntmps35
  go_wp2
  go_loopw [6] (fun vi wr => ∃ (i : Nat) (dk : Array Int), vi = .int .i64 i ∧ a < i ∧ i ≤ b + 1 ∧ dk.size = d.size ∧ At w blk off dk wr ∧
      Hid (insOuter ltInt a b i dk = insOuter ltInt a b (a + 1) d)) (fun vi _ => b + 1 - (intOf vi).toNat)
  case atStart => exact ⟨a + 1, d, by go_num, by omega, by omega, rfl, hA0, hid rfl⟩
  case round =>
    obtain ⟨i, dk, rfl, hai, hib, hsk, hAk, HO⟩ := hrel
    go_wp2
    · go_loopw [7] (fun vj wr2 => ∃ (j : Nat) (dj : Array Int), vj = .int .i64 j ∧ a ≤ j ∧ j ≤ i ∧ dj.size = d.size ∧ At w blk off dj wr2 ∧
          Hid (insInner ltInt a j dj = insInner ltInt a i dk)) (fun vj _ => (intOf vj).toNat)
      case atStart => exact ⟨i, dk, rfl, by omega, Nat.le_refl _, hsk, hAk, hid rfl⟩
      case round =>
        obtain ⟨j, dj, rfl, haj, hji, hsj, hAj, HI⟩ := hrel
        have hlt : i < b := by assumption
        obtain ⟨G, hG⟩ : ∃ G : Nat → Int, ∀ t, G t = dj[t]! := ⟨fun t => dj[t]!, fun _ => rfl⟩
        have hcw := hAj.cell G hG _ hsj
        have hfw := hAj.froz _ hsj
        have HG : Hid (∀ t, G t = dj[t]!) := hG
        clear hG
        have OUT : Hid ((j ≤ a ∨ ltInt dj[j]! dj[j - 1]! = false) → insOuter ltInt a b (i + 1) dj = insOuter ltInt a b (a + 1) d) := fun hs => by
          rw [← HO.out, insOuter_go _ _ _ _ _ hlt, ← HI.out, insInner_stop _ _ _ _ hs]
        go_wp2
        by_cases hja : a < j
        · go_quiet (first | (go_at_call 33; refine Calls.quiet_of_same (less_calls _ _ _)))
          go_wp2
          · have hl : ltInt (G j) (G (j - 1)) = true := by assumption
            go_region
            all_goals go_wp2
            go_roundw
            case rel =>
              refine ⟨j - 1, swp dj j (j - 1), by congr 1; omega, by omega, by omega, by rw [size_swp]; exact hsj, ?_, ?_⟩
              · exact (hAj.drewN _).swap j (j - 1) (by omega) (by omega) _ _ (HG.out _) (HG.out _)
              · refine hid ?_
                rw [← HI.out, insInner_go ltInt a j dj hja (by rw [← HG.out, ← HG.out]; exact hl)]
            case measure => simp [intOf]; omega
          · have hl : ltInt (G j) (G (j - 1)) = false := by assumption
            go_roundw
            case rel => exact ⟨i + 1, dj, by go_num, by omega, by omega, hsj, hAj.drewN _, hid (OUT.out (Or.inr (by rw [← HG.out, ← HG.out]; exact hl)))⟩
            case measure => simp [intOf]; omega
        · go_quiet (first | (go_at_call 33; refine Calls.quiet_of_same (less_calls _ _ _)))
          go_wp2
          go_roundw
          case rel => exact ⟨i + 1, dj, by go_num, by omega, by omega, hsj, hAj.drewN _, hid (OUT.out (Or.inl (by omega)))⟩
          case measure => simp [intOf]; omega
    · have hge : ¬ i < b := by assumption
      go_end0
      refine ⟨rfl, ?_⟩
      unfold Sort.insertionSort
      rw [← HO.out, insOuter_stop _ _ _ _ _ hge]
      exact hAk

end Go.Proofs.YbulkbrtmFmt
