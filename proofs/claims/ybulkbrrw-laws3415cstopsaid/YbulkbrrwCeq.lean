import Derived.Test.YbulkbrrwCwalk
namespace Go.Proofs.Ybulkbrrw
open Go.RowKit Go.Deep
set_option linter.unusedVariables false
set_option linter.unusedSimpArgs false

theorem u64s_cell {w : World} {base g cap : Nat} {ls : List Int} (h : w.ownsRow base 24 1 (.slice (some ⟨g, 0, none⟩) ls.length cap) ls.length (u64s ls)) (i : Nat) (hi : i < ls.length) : w.cell? ⟨g, i, none⟩ = some (.int .u64 ls[i]) := by
  rw [h.cellAt i (by omega)]; simp [u64s, hi]

set_option maxHeartbeats 1000000 in
theorem ceq12 (w : World) (va vb : Value) (b1 b2 : Nat) (ls : List Int) (ha : w.ownsRow b1 24 1 va ls.length (u64s ls)) (hb : w.ownsRow b2 24 1 vb ls.length (u64s ls)) (hn : ls.length < 100000) :
    Calls Yba.prog 12 #[va, vb] w fun e w' => e = .returned (.bool true) ∧ ∃ n, w' = w.drewN n := by
  obtain ⟨ao, ca, rfl⟩ := own_slice ha
  obtain ⟨bo, cb, rfl⟩ := own_slice hb
  obtain ⟨n, hln⟩ : ∃ n, n = ls.length := ⟨_, rfl⟩
  have hce : ∀ i, i < n → (∃ ga, ao = some ⟨ga, 0, none⟩ ∧ w.cell? ⟨ga, i, none⟩ = some (.int .u64 (ls.getD i 0))) ∧ (∃ gb, bo = some ⟨gb, 0, none⟩ ∧ w.cell? ⟨gb, i, none⟩ = some (.int .u64 (ls.getD i 0))) := by
    intro i hi
    constructor
    · rcases ha.2 with ⟨h0, h1⟩ | ⟨g, cap, cur, e1, _⟩
      · omega
      · simp at e1; obtain ⟨rfl, rfl⟩ := e1
        refine ⟨g, rfl, ?_⟩
        rw [u64s_cell ha i (by omega), List.getD_eq_getElem?_getD, List.getElem?_eq_getElem (by omega)]; rfl
    · rcases hb.2 with ⟨h0, h1⟩ | ⟨g, cap, cur, e1, _⟩
      · omega
      · simp at e1; obtain ⟨rfl, rfl⟩ := e1
        refine ⟨g, rfl, ?_⟩
        rw [u64s_cell hb i (by omega), List.getD_eq_getElem?_getD, List.getElem?_eq_getElem (by omega)]; rfl
  rw [← hln]
  rw [← hln] at hn
  have HC : Hid (∀ i, i < n → (∃ ga, ao = some ⟨ga, 0, none⟩ ∧ w.cell? ⟨ga, i, none⟩ = some (.int .u64 (ls.getD i 0))) ∧ (∃ gb, bo = some ⟨gb, 0, none⟩ ∧ w.cell? ⟨gb, i, none⟩ = some (.int .u64 (ls.getD i 0)))) := hce
  clear ha hb hln hce
  go_enter Yba.func12, Yba.ntmps12
  go_wp2
  go_loopw [13] (fun q wr => ∃ (k m : Nat), k ≤ n ∧ q = .int .i64 k ∧ wr = w.drewN m) (fun q _ => n - (intOf q).toNat)
  case atStart => exact ⟨0, 0, Nat.zero_le _, rfl, rfl⟩
  case round =>
    obtain ⟨k, m, hk, rfl, rfl⟩ := hrel
    by_cases hlt : k < n
    · obtain ⟨⟨ga, rfl, c1⟩, gb, rfl, c2⟩ := HC.out k hlt
      have i1 : (k : Int) < (n : Int) := by omega
      generalize ls.getD k 0 = x at c1 c2
      go_wp2_with fail
      go_quiet (fail)
      go_wp2
      go_roundw
      case rel => exact ⟨k + 1, m + nq, by omega, by go_num, rfl⟩
      case measure => simp [intOf]; omega
    · go_wp2
      go_ret
      exact ⟨rfl, m, rfl⟩
end Go.Proofs.Ybulkbrrw
