import Derived.Test.YbulkbrrwMqueue
import Derived.Maps.OwnSet
namespace Go.Proofs.Ybulkbrrw
open Go.RowKit Go.Deep
set_option linter.unusedVariables false
set_option linter.unusedSimpArgs false

theorem join18 (w : World) (s g : Nat) (id : Int) (hq : Blk w (s + 1) 85 (qcells id s)) :
    Calls Yba.prog 18 #[.pointer (some ⟨s + 1, 0, none⟩), .pointer (some ⟨g, 0, none⟩)] w fun e w' => e = .returned (.tuple #[]) ∧ w' = w := by
  have c11 : w.cell? ⟨s + 1, 11, none⟩ = some (.bool false) := hq.cell 11
  have c12 : w.cell? ⟨s + 1, 12, none⟩ = some (.bool false) := hq.cell 12
  clear hq
  go_enter Yba.func18, Yba.ntmps18
  go_wp2
  refine bodyPost_ret (results_none rfl _ _ _) rfl ?_
  exact ⟨rfl, rfl⟩

set_option maxHeartbeats 1000000 in
theorem heapOf29 (w : World) (s g : Nat) (id : Int) (r : Rec) (hq : Blk w (s + 1) 85 (qcells id s)) (hg : Blk w g 61 r.cells) :
    Calls Yba.prog 29 #[.pointer (some ⟨s + 1, 0, none⟩), .pointer (some ⟨g, 0, none⟩)] w fun e w' => e = .returned (.pointer (some ⟨s + 2 + cls r, 0, none⟩)) ∧ w' = w := by
  have c14 : w.cell? ⟨s + 1, 14, none⟩ = some (.pointer (some ⟨s + 2, 0, none⟩)) := hq.cell 14
  have c15 : w.cell? ⟨s + 1, 15, none⟩ = some (.pointer (some ⟨s + 3, 0, none⟩)) := hq.cell 15
  have c16 : w.cell? ⟨s + 1, 16, none⟩ = some (.pointer (some ⟨s + 4, 0, none⟩)) := hq.cell 16
  have g34 : w.cell? ⟨g, 34, none⟩ = some (.int .i64 r.rc) := hg.cell 34
  have g35 : w.cell? ⟨g, 35, none⟩ = some (.int .i64 r.hd) := hg.cell 35
  clear hq hg
  by_cases h1 : r.hd = 0
  · rw [show cls r = 0 from by simp [cls, h1]]
    rw [h1] at g35
    go_enter Yba.func29, Yba.ntmps29
    go_wp2
    go_ret
    exact ⟨rfl, rfl⟩
  · have h1' : (r.hd == 0) = false := by simpa using h1
    by_cases h2 : r.rc = 0
    · rw [show cls r = 2 from by simp [cls, h1, h2]]
      rw [h2] at g34
      go_enter Yba.func29, Yba.ntmps29
      go_wp2
      go_ret
      exact ⟨rfl, rfl⟩
    · have h2' : (r.rc == 0) = false := by simpa using h2
      rw [show cls r = 1 from by simp [cls, h1, h2]]
      go_enter Yba.func29, Yba.ntmps29
      go_wp2
      go_ret
      exact ⟨rfl, rfl⟩

theorem look80 (w : World) : (Instr.lookup 80 (.map none) (.string { data := #[] }) false).run Yba.prog w = .ok (.pointer none) w := by kernel_rfl

set_option maxHeartbeats 1000000 in
theorem counted30 (w : World) (s g : Nat) (id : Int) (r : Rec) (hq : Blk w (s + 1) 85 (qcells id s)) (hg : Blk w g 61 r.cells) (hv by' : Value) :
    Calls Yba.prog 30 #[.pointer (some ⟨s + 1, 0, none⟩), .pointer (some ⟨g, 0, none⟩), hv, by'] w fun e w' => e = .returned (.tuple #[]) ∧ ∃ n, w' = w.drewN n := by
  have c23 : w.cell? ⟨s + 1, 23, none⟩ = some (.map none) := hq.cell 23
  have g49 : w.cell? ⟨g, 49, none⟩ = some (.string { data := #[] }) := hg.cell 49
  have hl := look80
  clear hq hg
  go_enter Yba.func30, Yba.ntmps30
  go_wp2
  go_quiet (fail)
  go_wp2
  refine bodyPost_ret (results_none rfl _ _ _) rfl ?_
  exact ⟨rfl, _, rfl⟩

set_option maxHeartbeats 1000000 in
theorem leave34 (w : World) (s g : Nat) (id : Int) (r : Rec) (hq : Blk w (s + 1) 85 (qcells id s)) (hg : Blk w g 61 r.cells) :
    Calls Yba.prog 34 #[.pointer (some ⟨s + 1, 0, none⟩), .pointer (some ⟨g, 0, none⟩)] w fun e w' => e = .returned (.tuple #[]) ∧ ∃ n, w' = w.drewN n := by
  have c23 : w.cell? ⟨s + 1, 23, none⟩ = some (.map none) := hq.cell 23
  have g49 : w.cell? ⟨g, 49, none⟩ = some (.string { data := #[] }) := hg.cell 49
  have hl := look80
  clear hq hg
  go_enter Yba.func34, Yba.ntmps34
  go_wp2
  go_quiet (fail)
  go_wp2
  refine bodyPost_ret (results_none rfl _ _ _) rfl ?_
  exact ⟨rfl, _, rfl⟩

theorem cls_lt (r : Rec) : cls r < 3 := by unfold cls; split <;> (try split) <;> omega

set_option maxHeartbeats 1000000 in
theorem place19 (w : World) (D : Nat → Rec) (base s : Nat) (id : Int) (v : Nat → Value) (X : Nat → List Nat) (g : Nat) (q : QH w D base s id v X) (hg : Blk w g 61 (D g).cells) (hgx : g ∉ X (cls (D g))) (hfew : (X (cls (D g))).length + 1 < 1000) (hbs : base ≤ w.heap.size) :
    Calls Yba.prog 19 #[.pointer (some ⟨s + 1, 0, none⟩), .pointer (some ⟨g, 0, none⟩)] w fun e w' => e = .returned (.tuple #[]) ∧ ∃ W n D' v' ys, w' = W.drewN n ∧ Pushed w D (cls (D g)) base (s + 2 + cls (D g)) (v (cls (D g))) (X (cls (D g))) g W D' v' ys := by
  have hc := cls_lt (D g)
  have hlt := q.lt
  have h0 := q.heap (cls (D g)) (by omega)
  have hP := mpush20 w D (cls (D g)) base (s + 2 + cls (D g)) g _ _ h0 hg hgx hfew (by omega) hbs
  have hO := heapOf29 w s g id (D g) q.q hg
  have hQ := q.q
  obtain ⟨c, hcc⟩ : ∃ c, c = cls (D g) := ⟨_, rfl⟩
  rw [← hcc] at hP hO h0 hc ⊢
  clear hcc
  go_enter Yba.func19, Yba.ntmps19
  go_wp2_with fail
  refine hO.mono ?_
  rintro e w2 ⟨rfl, hw2⟩
  have hw2' := hw2.symm
  subst hw2'
  go_wp2_with fail
  refine hP.mono ?_
  rintro e W ⟨rfl, D', v', ys, hh⟩
  have ht := hh.turned h0 hg
  have hC := fun x y => counted30 W s g id (D' g) (ht.blk hQ (by decide) (by decide) (by omega)) (ht.msgs g (.inr rfl)) x y
  go_wp2_with fail
  refine (hC _ _).mono ?_
  rintro e w3 ⟨rfl, n, rfl⟩
  go_wp2
  go_end0
  exact ⟨rfl, W, n, D', v', ys, rfl, hh⟩

set_option maxHeartbeats 1000000 in
theorem unplace33 (w : World) (D : Nat → Rec) (base s : Nat) (id : Int) (v : Nat → Value) (X : Nat → List Nat) (g : Nat) (q : QH w D base s id v X) (hgx : g ∈ X (cls (D g))) :
    Calls Yba.prog 33 #[.pointer (some ⟨s + 1, 0, none⟩), .pointer (some ⟨g, 0, none⟩)] w fun e w' => e = .returned (.tuple #[]) ∧ ∃ W n D' v' ys, w' = W.drewN n ∧ Removed w D (cls (D g)) base (s + 2 + cls (D g)) (v (cls (D g))) (X (cls (D g))) g W D' v' ys := by
  have hc := cls_lt (D g)
  have hlt := q.lt
  have h0 := q.heap (cls (D g)) (by omega)
  have hg := h0.msg g hgx
  have hP := remove35 w D (cls (D g)) base (s + 2 + cls (D g)) _ _ g h0 hgx (by omega)
  have hO := heapOf29 w s g id (D g) q.q hg
  have hQ := q.q
  obtain ⟨c, hcc⟩ : ∃ c, c = cls (D g) := ⟨_, rfl⟩
  rw [← hcc] at hP hO h0 hc hgx ⊢
  clear hcc
  go_enter Yba.func33, Yba.ntmps33
  go_wp2_with fail
  refine hO.mono ?_
  rintro e w2 ⟨rfl, hw2⟩
  have hw2' := hw2.symm
  subst hw2'
  go_wp2_with fail
  refine hP.mono ?_
  rintro e W ⟨rfl, D', v', ys, hh⟩
  have ht := hh.turned h0 hgx
  have hC := fun x y => counted30 W s g id (D' g) (ht.blk hQ (by decide) (by decide) (by omega)) (ht.msgs g (.inr rfl)) x y
  go_wp2_with fail
  refine (hC _ _).mono ?_
  rintro e w3 ⟨rfl, n, rfl⟩
  go_wp2
  go_end0
  exact ⟨rfl, W, n, D', v', ys, rfl, hh⟩
end Go.Proofs.Ybulkbrrw
