import Derived.Test.YbulkbrrwGrp
import Derived.Deep.RegionHeld3
import Derived.Deep.DrawnRows
namespace Go.Proofs.Ybulkbrrw
open Go.RowKit Go.Deep
set_option linter.unusedVariables false
attribute [local go_sem ↓] Go.wp_at_zero Go.wp_at_succ

set_option maxHeartbeats 2000000 in
theorem swap_ne (w : World) (H r n cap i j a b : Nat) (ia ib : Value) (hn : n < 1000) (hi : i < n) (hj : j < n) (hij : i ≠ j) (hab : a ≠ b) (hra : r ≠ a) (hrb : r ≠ b) (hHr : H ≠ r) (hHa : H ≠ a) (hHb : H ≠ b) (hnc : n ≤ cap)
    (c0 : w.cell? ⟨H, 0, none⟩ = some (.slice (some ⟨r, 0, none⟩) n cap)) (c2 : w.cell? ⟨H, 2, none⟩ = some (.func (.func 37) #[] #[]))
    (ci : w.cell? ⟨r, i, none⟩ = some (.pointer (some ⟨a, 0, none⟩))) (cj : w.cell? ⟨r, j, none⟩ = some (.pointer (some ⟨b, 0, none⟩)))
    (fi : w.frozen? ⟨r, i, none⟩ = false) (fj : w.frozen? ⟨r, j, none⟩ = false) (ca : w.cell? ⟨a, 3, none⟩ = some ia) (cb : w.cell? ⟨b, 3, none⟩ = some ib) (fa : w.frozen? ⟨a, 3, none⟩ = false) (fb : w.frozen? ⟨b, 3, none⟩ = false) :
    Calls Yba.prog 101 #[.pointer (some ⟨H, 0, none⟩), .int .i64 i, .int .i64 j] w fun e w' => e = .returned (.tuple #[]) ∧ ∃ m, w' = ((((w.setCell ⟨r, i, none⟩ (.pointer (some ⟨b, 0, none⟩))).setCell ⟨r, j, none⟩ (.pointer (some ⟨a, 0, none⟩))).setCell ⟨b, 3, none⟩ (.int .i64 i)).setCell ⟨a, 3, none⟩ (.int .i64 j)).drewN m := by
  have i1 : (i : Int) < (n : Int) := by omega
  have j1 : (j : Int) < (n : Int) := by omega
  have i0 : (0 : Int) ≤ (i : Int) := by omega
  have j0 : (0 : Int) ≤ (j : Int) := by omega
  have q1 := Ne.symm hHa
  have q2 := Ne.symm hHb
  have q3 := Ne.symm hra
  have q4 := Ne.symm hrb
  have q5 := Ne.symm hab
  go_enter Yba.func101, Yba.ntmps101
  go_wp2
  go_region
  obtain ⟨W, hW⟩ : ∃ W, W = (w.setCell ⟨r, i, none⟩ (.pointer (some ⟨b, 0, none⟩))).setCell ⟨r, j, none⟩ (.pointer (some ⟨a, 0, none⟩)) := ⟨_, rfl⟩
  have d0 : W.cell? ⟨H, 0, none⟩ = some (.slice (some ⟨r, 0, none⟩) n cap) := by rw [hW]; go_simp
  have d2 : W.cell? ⟨H, 2, none⟩ = some (.func (.func 37) #[] #[]) := by rw [hW]; go_simp
  have di : W.cell? ⟨r, i, none⟩ = some (.pointer (some ⟨b, 0, none⟩)) := by rw [hW]; go_simp
  have dj : W.cell? ⟨r, j, none⟩ = some (.pointer (some ⟨a, 0, none⟩)) := by rw [hW]; go_simp
  have da : W.cell? ⟨a, 3, none⟩ = some ia := by rw [hW]; go_simp
  have db : W.cell? ⟨b, 3, none⟩ = some ib := by rw [hW]; go_simp
  have ea : W.frozen? ⟨a, 3, none⟩ = false := by rw [hW]; go_simp
  have eb : W.frozen? ⟨b, 3, none⟩ = false := by rw [hW]; go_simp
  rw [← hW]
  have HW : Hid (W = (w.setCell ⟨r, i, none⟩ (.pointer (some ⟨b, 0, none⟩))).setCell ⟨r, j, none⟩ (.pointer (some ⟨a, 0, none⟩))) := hW
  clear hW c0 c2 ci cj fi fj ca cb fa fb
  go_wp2
  go_region_held3 (fun w' => w'.cell? ⟨H, 0, none⟩ = some (.slice (some ⟨r, 0, none⟩) n cap) ∧ w'.cell? ⟨H, 2, none⟩ = some (.func (.func 37) #[] #[]) ∧ w'.cell? ⟨r, i, none⟩ = some (.pointer (some ⟨b, 0, none⟩)) ∧ w'.cell? ⟨r, j, none⟩ = some (.pointer (some ⟨a, 0, none⟩))) (go_keep)
    ((go_at_call 37; refine (slot37 _ _).mono ?_; rintro e w' ⟨rfl, rfl⟩))
  go_end0
  exact ⟨rfl, 2, by rw [HW.out]; rfl⟩

set_option maxHeartbeats 2000000 in
theorem swap_eq (w : World) (H r n cap i a : Nat) (ia : Value) (hn : n < 1000) (hi : i < n) (hra : r ≠ a) (hHr : H ≠ r) (hHa : H ≠ a) (hnc : n ≤ cap)
    (c0 : w.cell? ⟨H, 0, none⟩ = some (.slice (some ⟨r, 0, none⟩) n cap)) (c2 : w.cell? ⟨H, 2, none⟩ = some (.func (.func 37) #[] #[]))
    (ci : w.cell? ⟨r, i, none⟩ = some (.pointer (some ⟨a, 0, none⟩)))
    (fi : w.frozen? ⟨r, i, none⟩ = false) (ca : w.cell? ⟨a, 3, none⟩ = some ia) (fa : w.frozen? ⟨a, 3, none⟩ = false) :
    Calls Yba.prog 101 #[.pointer (some ⟨H, 0, none⟩), .int .i64 i, .int .i64 i] w fun e w' => e = .returned (.tuple #[]) ∧ ∃ m, w' = ((((w.setCell ⟨r, i, none⟩ (.pointer (some ⟨a, 0, none⟩))).setCell ⟨r, i, none⟩ (.pointer (some ⟨a, 0, none⟩))).setCell ⟨a, 3, none⟩ (.int .i64 i)).setCell ⟨a, 3, none⟩ (.int .i64 i)).drewN m := by
  have i1 : (i : Int) < (n : Int) := by omega
  have i0 : (0 : Int) ≤ (i : Int) := by omega
  have q1 := Ne.symm hHa
  have q3 := Ne.symm hra
  go_enter Yba.func101, Yba.ntmps101
  go_wp2
  go_region
  obtain ⟨W, hW⟩ : ∃ W, W = (w.setCell ⟨r, i, none⟩ (.pointer (some ⟨a, 0, none⟩))).setCell ⟨r, i, none⟩ (.pointer (some ⟨a, 0, none⟩)) := ⟨_, rfl⟩
  have d0 : W.cell? ⟨H, 0, none⟩ = some (.slice (some ⟨r, 0, none⟩) n cap) := by rw [hW]; go_simp
  have d2 : W.cell? ⟨H, 2, none⟩ = some (.func (.func 37) #[] #[]) := by rw [hW]; go_simp
  have di : W.cell? ⟨r, i, none⟩ = some (.pointer (some ⟨a, 0, none⟩)) := by rw [hW]; go_simp
  have da : W.cell? ⟨a, 3, none⟩ = some ia := by rw [hW]; go_simp
  have ea : W.frozen? ⟨a, 3, none⟩ = false := by rw [hW]; go_simp
  rw [← hW]
  have HW : Hid (W = (w.setCell ⟨r, i, none⟩ (.pointer (some ⟨a, 0, none⟩))).setCell ⟨r, i, none⟩ (.pointer (some ⟨a, 0, none⟩))) := hW
  clear hW c0 c2 ci fi ca fa
  go_wp2
  go_region_held3 (fun w' => w'.cell? ⟨H, 0, none⟩ = some (.slice (some ⟨r, 0, none⟩) n cap) ∧ w'.cell? ⟨H, 2, none⟩ = some (.func (.func 37) #[] #[]) ∧ w'.cell? ⟨r, i, none⟩ = some (.pointer (some ⟨a, 0, none⟩))) (go_keep)
    ((go_at_call 37; refine (slot37 _ _).mono ?_; rintro e w' ⟨rfl, rfl⟩))
  go_end0
  exact ⟨rfl, 2, by rw [HW.out]; rfl⟩
end Go.Proofs.Ybulkbrrw
