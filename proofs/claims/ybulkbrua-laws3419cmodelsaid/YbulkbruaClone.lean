import Derived.Test.YbulkbruaEl
namespace Go.Proofs.Ybulkbrua
open Go.RowKit Go.Deep
set_option linter.unusedVariables false
set_option linter.unusedSimpArgs false
attribute [local go_sem ↓] Go.wp_at_zero Go.wp_at_succ

theorem wpList_append_run {P : Program} {w : World} {ops : Array Oper} {rest : List Oper} {o : Oper} {a : Act} {Q : Exit → Act → World → Prop} (hgd : o.guard = none) (s x : Operand) (t u : TypeId)
    (ho : o.op = .call { callee := .builtin .append, args := #[s, x], argTypes := #[t, u] }) {v' : Value} {w' : World}
    (hr : (Builtin.append_ #[t, u] o.type #[a.eval s, a.eval x]).run P w = .ok v' w') (h : wpList P ops Q rest (a.put o.dst v') w') : wpList P ops Q (o :: rest) a w :=
  wpList_plain hgd fun _ hK => by
    unfold Oper.wp execOp
    simp only [ho, resolve, invoke, builtin, Sem.run_bind, Sem.run_pure, Result.andThen_ok, List.map_toArray, List.map_cons, List.map_nil, hr]
    exact hK _ _ h

/-- A list that the call owns, with spare room behind it. -/
def GotAt (w : World) (B : Nat) (v : Value) (L : List El) : Prop :=
  (v = .slice none 0 0 ∧ L = []) ∨ ∃ g cap cur, v = .slice (some ⟨g, 0, none⟩) L.length cap ∧ L.length ≤ cap ∧ B ≤ g ∧ Blk w g 41 cur ∧ cur.toList.take (L.length * 11) = cellsL L

set_option maxRecDepth 100000 in
set_option maxHeartbeats 1000000 in
theorem clone7 (w : World) (v : Value) (L : List El) (hv : RejAt w v L) (hl : L.length ≤ 1024) :
    Calls Yba.prog 7 #[v] w fun e w' => ∃ v', e = .returned v' ∧ (v' = .slice none 0 0 ↔ v = .slice none 0 0) ∧ GotAt w' w.heap.size v' L ∧ Keeps (fun _ => False) w w' := by
  have hne := nil_eq
  have hse := some_eq
  rcases hv with ⟨rfl, rfl⟩ | ⟨a, cap, rfl, hcap, hc⟩
  · go_enter Yba.func7, Yba.ntmps7
    go_wp2
    go_ret
    exact ⟨_, rfl, by simp, .inl ⟨rfl, rfl⟩, Keeps.refl _ _⟩
  · obtain ⟨i, z, hi, hz, hs, hb, hzs⟩ := i41
    obtain ⟨n, hn⟩ : ∃ n, n = L.length := ⟨_, rfl⟩
    obtain ⟨w1, hw1⟩ : ∃ w1, w1 = w.alloc (.cells #[] 41) := ⟨_, rfl⟩
    have hb1 : Blk w1 w.heap.size 41 #[] := by rw [hw1]; exact Blk.new _ _ _
    have k1 : Keeps (fun _ => False) w w1 := by rw [hw1]; exact (Keeps.refl _ w).alloc _
    have ho : w1.ownsRow w.heap.size 41 11 (.slice (some ⟨w.heap.size, 0, none⟩) 0 0) 0 [] := ⟨rfl, .inr ⟨w.heap.size, 0, #[], rfl, Nat.le_refl _, hb1, Nat.le_refl _, Nat.zero_le _, rfl, rfl⟩⟩
    obtain ⟨v', w2, hr, ho2, hg2, hnil⟩ := run_append_own (P := Yba.prog) w1 w.heap.size 23 23 41 i z 11 11 Yba.underlying23 hi hz hs hb hzs (by omega) _ 0 [] ho a n cap (cellsL L) (by rw [cellsL_len, hn]) (fun j u hj => by
      have h := hc j u hj
      rw [← h]
      exact World.cell?_of_block (k1.block _ (block_lt_of_cell h) (by simp))) (cellsL_one L) (by simp [maxLen]; omega) (by omega) k1.size
    rw [Nat.zero_add, List.nil_append] at ho2
    have k2 : Keeps (fun _ => False) w w2 := by
      refine ⟨hg2.os.trans k1.os, hg2.tape.trans k1.tape, hg2.output.trans k1.output, Nat.le_trans k1.size hg2.size, fun b hb hs => (hg2.block b (Nat.lt_of_lt_of_le hb k1.size) ?_).trans (k1.block b hb hs)⟩
      simp [Value.ownBlock]; omega
    have hgot : GotAt w2 w.heap.size v' L := by
      rcases ho2.2 with ⟨h0, h1⟩ | ⟨g, cap', cur, rfl, hbg, hgg, hnc, hcm, hcs, htk⟩
      · have := hnil.1 h0; simp at this
      · right
        rw [← hn]
        exact ⟨g, cap', cur, rfl, hnc, hbg, hgg, htk⟩
    have HE : Hid (GotAt w2 w.heap.size v' L ∧ Keeps (fun _ => False) w w2 ∧ v' ≠ .slice none 0 0) := ⟨hgot, k2, fun h => by have := hnil.1 h; simp at this⟩
    have HR : Hid _ := hr
    rw [hw1] at HR
    rw [← hn]
    clear hgot k2 hr hnil ho2 hg2 ho k1 hb1 hw1 hc hcap hz hzs
    go_enter Yba.func7, Yba.ntmps7
    go_wp2_with (at_builtin; refine wpList_append_run rfl _ _ 23 23 rfl HR.out ?_)
    go_wp2_with fail
    go_ret
    obtain ⟨h1, h2, h3⟩ := HE.out
    exact ⟨_, rfl, by simp [h3], h1, h2⟩
end Go.Proofs.Ybulkbrua
