import Derived.Test.YbulkbrrwMrec
import Derived.Deep.RegionHeld3
import Derived.Deep.DrawnRows
import Derived.WalkSmall
namespace Go.Proofs.Ybulkbrrw
open Go.RowKit Go.Deep
set_option linter.unusedVariables false
set_option linter.unusedSimpArgs false
attribute [local go_sem ↓] Go.wp_at_zero Go.wp_at_succ

set_option maxHeartbeats 2000000 in
theorem mpop17 (w : World) (fl H n base r cap g : Nat) (gs : Array Value) (xs : List Value) (hn : n < 1000) (hHg : H ≠ g) (hHb : H < base) (hncap : n + 1 ≤ cap)
    (hobj : Blk w H 89 #[.slice (some ⟨r, 0, none⟩) (n + 1) cap, .func (.func fl) #[] #[], .func (.func 17) #[] #[]]) (hrH : H ≠ r)
    (hown : w.ownsRow base 53 1 (.slice (some ⟨r, 0, none⟩) (n + 1) cap) (n + 1) (xs ++ [pt g])) (hxs : xs.length = n) (hg : Blk w g 61 gs) (hgs : 48 < gs.size) :
    Calls Yba.prog 91 #[.pointer (some ⟨H, 0, none⟩)] w fun e w' => e = .returned (.iface 53 (.pointer (some ⟨g, 0, none⟩))) ∧ ∃ m, 
      w' = (((w.setCell ⟨g, 48, none⟩ (.int .i64 (-1))).setCell ⟨r, n, none⟩ (.pointer none)).setCell ⟨H, 0, none⟩ (.slice (some ⟨r, 0, none⟩) n cap)).drewN m := by
  have hgn : g ≠ r := fun e => own_ne hown hg (by decide) (by rw [e]; rfl)
  have c0 : w.cell? ⟨H, 0, none⟩ = some (.slice (some ⟨r, 0, none⟩) (n + 1) cap) := hobj.cell 0
  have c2 : w.cell? ⟨H, 2, none⟩ = some (.func (.func 17) #[] #[]) := hobj.cell 2
  have f0 := hobj.frozen 0
  have cg : w.cell? ⟨g, 48, none⟩ = some gs[48] := by rw [hg.cell 48]; simp [hgs]
  have fg := hg.frozen 48
  have cr : w.cell? ⟨r, n, none⟩ = some (.pointer (some ⟨g, 0, none⟩)) := by rw [hown.cellAt n (by omega), List.getElem?_append_right (by omega)]; simp [hxs, pt]
  have fr := hown.frozenAt n
  have q1 := Ne.symm hHg
  have q2 := Ne.symm hgn
  have q3 := Ne.symm hrH
  clear hobj hown hg
  go_enter Yba.func91, Yba.ntmps91
  go_wp2
  go_quiet (fail)
  go_wp2_with (go_at_call 17; refine (slot17 _ _).mono ?_; rintro e w' ⟨rfl, rfl⟩)
  go_region
  all_goals go_wp2
  all_goals go_region
  all_goals go_wp2
  go_ret
  exact ⟨rfl, nq + 2, rfl⟩
end Go.Proofs.Ybulkbrrw
