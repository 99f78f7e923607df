import Derived.Test.YbulkbrrwMrec
import Derived.Deep.RegionHeld3
import Derived.Deep.DrawnRows
import Derived.Maps.AppendAt
namespace Go.Proofs.Ybulkbrrw
open Go.RowKit Go.Deep
set_option linter.unusedVariables false
set_option linter.unusedSimpArgs false
attribute [local go_sem ↓] Go.wp_at_zero Go.wp_at_succ
theorem Yba.info53a : (Yba.prog.info? 53).map (fun i => (i.zero, i.size, i.bytes)) = some (some (.pointer none), 1, 8) := by kernel_rfl

set_option maxHeartbeats 2000000 in
theorem mpush17 (w : World) (fl H n base g : Nat) (v : Value) (gs : Array Value) (xs : List Value) (hn : n < 1000) (hHg : H ≠ g) (hHb : H < base) (hbs : base ≤ w.heap.size)
    (hobj : Blk w H 89 #[v, .func (.func fl) #[] #[], .func (.func 17) #[] #[]])
    (hown : w.ownsRow base 53 1 v n xs) (hg : Blk w g 61 gs) (hgs : 48 < gs.size) :
    Calls Yba.prog 92 #[.pointer (some ⟨H, 0, none⟩), .iface 53 (.pointer (some ⟨g, 0, none⟩))] w fun e w' => e = .returned (.tuple #[]) ∧ ∃ r cap,
      Blk w' H 89 #[.slice (some ⟨r, 0, none⟩) (n + 1) cap, .func (.func fl) #[] #[], .func (.func 17) #[] #[]] ∧
      w'.ownsRow base 53 1 (.slice (some ⟨r, 0, none⟩) (n + 1) cap) (n + 1) (xs ++ [pt g]) ∧ Blk w' g 61 (gs.setIfInBounds 48 (.int .i64 n)) ∧
      Keeps (fun b => b = H ∨ b = g ∨ some b = v.ownBlock) w w' ∧ (some r = v.ownBlock ∨ w.heap.size ≤ r) := by
  obtain ⟨i0, hi, hz0, hz1, hz2⟩ := info_parts Yba.info53a
  have hgn : some g ≠ v.ownBlock := own_ne hown hg (by decide)
  have hHn : some H ≠ v.ownBlock := own_lo hown hHb
  obtain ⟨ao, cap, rfl⟩ := own_slice hown
  have c0 : w.cell? ⟨H, 0, none⟩ = some (.slice ao n cap) := hobj.cell 0
  have c2 : w.cell? ⟨H, 2, none⟩ = some (.func (.func 17) #[] #[]) := hobj.cell 2
  have f0 := hobj.frozen 0
  have cg : w.cell? ⟨g, 48, none⟩ = some gs[48] := by rw [hg.cell 48]; simp [hgs]
  have fg := hg.frozen 48
  have hlt := hobj.lt
  have q1 := Ne.symm hHg
  have hta : ∀ w, (Instr.typeAssert (.iface 53 (.pointer (some ⟨g, 0, none⟩))) 20 53 false).run Yba.prog w = .ok (.pointer (some ⟨g, 0, none⟩)) w := fun w => by kernel_rfl
  have hown2 : (w.setCell ⟨g, 48, none⟩ (.int .i64 n)).ownsRow base 53 1 (.slice ao n cap) n xs := ownsRow_store hown hgn _ _
  go_enter Yba.func92, Yba.ntmps92
  go_wp2
  go_region_held3 (fun w' => w'.cell? ⟨H, 0, none⟩ = some (.slice ao n cap) ∧ w'.cell? ⟨H, 2, none⟩ = some (.func (.func 17) #[] #[])) (go_keep)
    ((go_at_call 17; refine (slot17 _ _).mono ?_; rintro e w' ⟨rfl, rfl⟩))
  go_wp2_with (at_builtin; refine wpList_append_own_at _ rfl _ _ 52 rfl base 53 i0 (.pointer none) 1 8 Yba.underlying52 hi hz0 hz1 hz2 rfl (by decide) _ _ _ rfl (by exact (ownsRow_drewN (hown2.alloc _) 1)) ⟨w.heap.size, 0, none⟩ 1 1 [pt g] rfl rfl ?c1 ?c2 ?c3 ?c4 ?c5 ?_)
  case c1 => exact cell_one_new' _ _ _ _ (by simp [World.setCell])
  case c2 => intro u hu; simp at hu; subst hu; rfl
  case c3 => unfold maxLen; omega
  case c4 => omega
  case c5 => simp [World.setCell]; omega
  intro v' w1 hown' hgrow0 _ hat
  have hgrow : ((w.setCell ⟨g, 48, none⟩ (.int .i64 n)).alloc (.cells #[.pointer (some ⟨g, 0, none⟩)] 53)).grownBy w1 (Value.slice ao n cap).ownBlock := ⟨hgrow0.os, hgrow0.tape, hgrow0.output, hgrow0.size, hgrow0.block⟩
  obtain ⟨g', cap', rfl⟩ := ownsRow_succ hown'
  have hB1 : Blk w1 H 89 #[.slice ao n cap, .func (.func fl) #[] #[], .func (.func 17) #[] #[]] := ((hobj.setOther (a := ⟨g, 48, none⟩) hHg _).alloc _).grown hgrow hHn
  have hG1 : Blk w1 g 61 (gs.setIfInBounds 48 (.int .i64 n)) := ((hg.set 48 _).alloc _).grown hgrow hgn
  have hk1 : Keeps (fun b => b = H ∨ b = g ∨ some b = (Value.slice ao n cap).ownBlock) w w1 :=
    (((Keeps.refl _ w).setCell (a := ⟨g, 48, none⟩) (by simp) _).alloc _).grown hgrow (fun k e => .inr (.inr e.symm))
  have hlt1 := hB1.lt
  have hr1 : w1.cell? ⟨H, 0, none⟩ = some (.slice ao n cap) := hB1.cell 0
  have hf1 := hB1.frozen 0
  have hat' : some g' = (Value.slice ao n cap).ownBlock ∨ w.heap.size ≤ g' := by
    rcases hat with h | h
    · exact .inl h
    · right; simp [Value.ownBlock, World.setCell] at h; omega
  clear hgrow hgrow0 hown hown2 hat c0 c2 f0 cg fg
  go_wp2
  go_end0
  refine ⟨rfl, g', cap', hB1.set 0 _, ownsRow_setCell_below hown' hHb _, hG1.setOther (a := ⟨H, 0, none⟩) q1 _, hk1.setCell (a := ⟨H, 0, none⟩) (.inl rfl) _, hat'⟩
end Go.Proofs.Ybulkbrrw
