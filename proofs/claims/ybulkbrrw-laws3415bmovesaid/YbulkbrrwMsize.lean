import Derived.Test.YbulkbrrwMrec
import Derived.Deep.RegionHeld3
import Derived.Deep.DrawnRows
namespace Go.Proofs.Ybulkbrrw
open Go.RowKit Go.Deep
set_option linter.unusedVariables false
set_option linter.unusedSimpArgs false
attribute [local go_sem ↓] Go.wp_at_zero Go.wp_at_succ

theorem every32 (w : World) (g : Nat) (r : Rec) (hg : Blk w g 61 r.cells) :
    Calls Yba.prog 32 #[.pointer (some ⟨g, 36, none⟩)] w fun e w' => e = .returned (.agg #[.pointer (some ⟨g, 36, none⟩), .pointer (some ⟨g, 38, none⟩), .pointer (some ⟨g, 40, none⟩), .pointer (some ⟨g, 42, none⟩)]) ∧ Keeps (fun _ => False) w w' := by
  have hlt := hg.lt
  go_enter Yba.func32, Yba.ntmps32
  go_wp2
  go_region
  go_wp2

  refine bodyPost_ret (v := .agg #[.pointer (some ⟨g, 36, none⟩), .pointer (some ⟨g, 38, none⟩), .pointer (some ⟨g, 40, none⟩), .pointer (some ⟨g, 42, none⟩)]) ?_ rfl ⟨rfl, ?_⟩
  · rw [results, show Yba.f32.results = #[.cell 2 126] from rfl]
    go_simp
  · exact ((Keeps.refl _ w).alloc _).drew

set_option maxRecDepth 20000 in
set_option maxHeartbeats 1000000 in
theorem size21 (w : World) (g : Nat) (r : Rec) (hg : Blk w g 61 r.cells) :
    Calls Yba.prog 21 #[.pointer (some ⟨g, 0, none⟩)] w fun e w' => e = .returned (.int .i64 64) ∧ Keeps (fun _ => False) w w' := by
  have hlt := hg.lt
  have c49 : w.cell? ⟨g, 49, none⟩ = some (.string { data := #[] }) := hg.cell 49
  have c50 : w.cell? ⟨g, 50, none⟩ = some (.string { data := #[] }) := hg.cell 50
  have hE := fun n => every32 (w.drewN n) g r (hg.drewN n)
  have i0 : ∀ w, (Instr.index 126 (.agg #[.pointer (some ⟨g, 36, none⟩), .pointer (some ⟨g, 38, none⟩), .pointer (some ⟨g, 40, none⟩), .pointer (some ⟨g, 42, none⟩)]) (.int .i64 0)).run Yba.prog w = .ok (.pointer (some ⟨g, 36, none⟩)) w := fun _ => by kernel_rfl
  have i1 : ∀ w, (Instr.index 126 (.agg #[.pointer (some ⟨g, 36, none⟩), .pointer (some ⟨g, 38, none⟩), .pointer (some ⟨g, 40, none⟩), .pointer (some ⟨g, 42, none⟩)]) (.int .i64 1)).run Yba.prog w = .ok (.pointer (some ⟨g, 38, none⟩)) w := fun _ => by kernel_rfl
  have i2 : ∀ w, (Instr.index 126 (.agg #[.pointer (some ⟨g, 36, none⟩), .pointer (some ⟨g, 38, none⟩), .pointer (some ⟨g, 40, none⟩), .pointer (some ⟨g, 42, none⟩)]) (.int .i64 2)).run Yba.prog w = .ok (.pointer (some ⟨g, 40, none⟩)) w := fun _ => by kernel_rfl
  have i3 : ∀ w, (Instr.index 126 (.agg #[.pointer (some ⟨g, 36, none⟩), .pointer (some ⟨g, 38, none⟩), .pointer (some ⟨g, 40, none⟩), .pointer (some ⟨g, 42, none⟩)]) (.int .i64 3)).run Yba.prog w = .ok (.pointer (some ⟨g, 42, none⟩)) w := fun _ => by kernel_rfl
  go_enter Yba.func21, Yba.ntmps21
  go_wp2
  go_quiet (fail)
  go_wp2_with fail
  refine (hE _).mono ?_
  rintro e w1 ⟨rfl, hk1⟩
  have hk : Keeps (fun _ => False) w w1 := ((Keeps.refl _ w).drewN nq).trans hk1
  have hg1 := hg.keeps hk (by simp)
  have d0 : w1.cell? ⟨g, 37, none⟩ = some (.int .i64 0) := hg1.cell 37
  have d1 : w1.cell? ⟨g, 39, none⟩ = some (.int .i64 0) := hg1.cell 39
  have d2 : w1.cell? ⟨g, 41, none⟩ = some (.int .i64 0) := hg1.cell 41
  have d3 : w1.cell? ⟨g, 43, none⟩ = some (.int .i64 0) := hg1.cell 43
  clear hg1 hE c49 c50 hk1
  go_wp2
  go_loopw [22, 3] (fun q s wr => ∃ i : Int, 0 ≤ i ∧ i ≤ 4 ∧ q = .int .i64 i ∧ s = .int .i64 64 ∧ wr = w1) (fun q _ _ => 4 - (intOf q).toNat)
  case atStart => exact ⟨0, by omega, by omega, rfl, by go_num, rfl⟩
  case round =>
    obtain ⟨i, hi0, hi, rfl, rfl, rfl⟩ := hrel
    by_cases h4 : i = 4
    · subst h4
      go_wp2
      go_ret
      exact ⟨rfl, hk⟩
    obtain rfl | rfl | rfl | rfl : i = 0 ∨ i = 1 ∨ i = 2 ∨ i = 3 := by omega
    all_goals
      go_wp2
      go_roundw
      case rel => exact ⟨_, by decide, by decide, rfl, by simp, by simp⟩
      case measure => simp [intOf]
end Go.Proofs.Ybulkbrrw
