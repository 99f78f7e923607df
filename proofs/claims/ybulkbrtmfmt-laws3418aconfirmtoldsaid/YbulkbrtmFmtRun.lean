import Derived.Test.YbulkbrtmFmtPatA
import Derived.Deep.RegionHeld3
set_option linter.unusedVariables false
set_option linter.unusedSimpArgs false
set_option maxHeartbeats 4000000
set_option maxRecDepth 1000000
namespace Go.Proofs.YbulkbrtmFmt
open Go.RowKit Go.Sort Go.Proofs Go.Deep Go.Kit
open Go.Extern.Stop Go.Stop Go.Extern

theorem size33 : (Ybaf.prog.info? 33).map (·.size) = some 2 := by kernel_rfl

/-- The target that writes down what it is asked. -/
structure Tgt (w : World) (tb base : Nat) (fb : Bool) (ra : Option Addr) (rn rc : Nat) (er : Value) (ps : List ByteArray) (pv : Value) : Prop where
  blk : Blk w tb 38 #[.bool fb, .slice ra rn rc, er, .int .i64 (ps.length : Int), pv]
  own : w.ownsRow base 9 1 pv ps.length (ps.map Value.string)
  lo : tb < base
  hi : base ≤ w.heap.size
  few : ps.length ≤ 100

theorem Tgt.keeps {w w' : World} {tb base : Nat} {fb : Bool} {ra : Option Addr} {rn rc : Nat} {er : Value} {ps : List ByteArray} {pv : Value} {S : Nat → Prop} (h : Tgt w tb base fb ra rn rc er ps pv) (k : Keeps S w w') (h1 : ¬ S tb) (h2 : ∀ b, S b → b < base) : Tgt w' tb base fb ra rn rc er ps pv :=
  ⟨h.blk.keeps k h1, ownsRow_keeps h.own k h2, h.lo, Nat.le_trans h.hi k.size, h.few⟩

theorem run_calls (w : World) (tb base : Nat) (fb : Bool) (ra : Option Addr) (rn rc : Nat) (er : Value) (ps : List ByteArray) (pv : Value) (p : ByteArray) (h : Tgt w tb base fb ra rn rc er ps pv) (hf : ps.length < 100) :
    Calls Ybaf.prog 71 #[.pointer (some ⟨tb, 0, none⟩), .string p] w fun e w' => e = .returned (.tuple #[.agg #[.bool fb, .slice ra rn rc], er]) ∧
      (∃ pv', Tgt w' tb base fb ra rn rc er (ps ++ [p]) pv') ∧ Keeps (fun b => b = tb ∨ some b = pv.ownBlock) w w' := by
  obtain ⟨n, hn⟩ : ∃ n, n = ps.length := ⟨_, rfl⟩
  have hB := h.blk
  have hown := h.own
  have hlo := h.lo
  have hhi := h.hi
  rw [← hn] at hB hown hf
  obtain ⟨ao, cp, rfl⟩ := own_slice hown
  obtain ⟨j0, hj0, hy0, hy1, hy2⟩ := info_parts info9
  have c0 : w.cell? ⟨tb, 0, none⟩ = some (.bool fb) := hB.cell 0
  have c1 : w.cell? ⟨tb, 1, none⟩ = some (.slice ra rn rc) := hB.cell 1
  have c2 : w.cell? ⟨tb, 2, none⟩ = some er := hB.cell 2
  have c3 : w.cell? ⟨tb, 3, none⟩ = some (.int .i64 (n : Int)) := hB.cell 3
  have c4 : w.cell? ⟨tb, 4, none⟩ = some (.slice ao n cp) := hB.cell 4
  have f3 := hB.frozen 3
  have f4 := hB.frozen 4
  have hlt := hB.lt
  have HN := hid hn
  have hne : some tb ≠ (Value.slice ao n cp).ownBlock := own_lo hown hlo
  have HH := hid h
  clear hn h
  go_enter Ybaf.func71, Ybaf.ntmps71
  go_wp2_with (at_builtin; refine wpList_append_own _ rfl _ _ 36 rfl base 9 j0 (.string ⟨#[]⟩) 1 16 Ybaf.underlying36 hj0 hy0 hy1 hy2 rfl (by decide) (.slice ao n cp) n (ps.map Value.string) rfl ?c0 ⟨w.heap.size + 1, 0, none⟩ 1 1 [.string p] rfl rfl ?c1 ?c2 ?c3 ?c4 ?c5 ?_)
  case c0 =>
    exact ((ownsRow_store hown hne _ _).alloc _).alloc _
  case c1 => exact cell_one_new' _ _ _ _ (by simp)
  case c2 => intro u hu; simp at hu; subst hu; rfl
  case c3 => unfold maxLen; omega
  case c4 => omega
  case c5 => simp; omega
  intro v3 w3 hown3 hgrow3 _
  obtain ⟨r3, cap3, rfl⟩ := ownsRow_succ hown3
  have hBa : Blk (((w.setCell ⟨tb, 3, none⟩ (.int .i64 ((n : Int) + 1))).alloc (.cells #[.bool false, .slice none 0 0] 33)).alloc (.cells #[.string p] 9)) tb 38 #[.bool fb, .slice ra rn rc, er, .int .i64 ((n : Int) + 1), .slice ao n cp] :=
    ((hB.set 3 _).alloc _).alloc _
  have hRa : Blk (((w.setCell ⟨tb, 3, none⟩ (.int .i64 ((n : Int) + 1))).alloc (.cells #[.bool false, .slice none 0 0] 33)).alloc (.cells #[.string p] 9)) w.heap.size 33 #[.bool false, .slice none 0 0] := by
    have := (Blk.new (w.setCell ⟨tb, 3, none⟩ (.int .i64 ((n : Int) + 1))) 33 #[.bool false, .slice none 0 0]).alloc (.cells #[.string p] 9)
    simpa using this
  have k3 : Keeps (fun b => b = tb ∨ some b = (Value.slice ao n cp).ownBlock) w w3 := by
    have k0 : Keeps (fun b => b = tb ∨ some b = (Value.slice ao n cp).ownBlock) w (((w.setCell ⟨tb, 3, none⟩ (.int .i64 ((n : Int) + 1))).alloc (.cells #[.bool false, .slice none 0 0] 33)).alloc (.cells #[.string p] 9)) :=
      ((Keeps.setCell (a := ⟨tb, 3, none⟩) (Keeps.refl _ _) (Or.inl rfl) _).alloc _).alloc _
    exact k0.grown hgrow3 fun k hk => Or.inr hk.symm
  have hB3 := hBa.grown hgrow3 hne
  have hR3 := hRa.grown hgrow3 (fun e => by have := (hown.lt _ e.symm).2; omega)
  clear hBa hRa hgrow3 hB c0 c1 c2 c3 c4 f3 f4
  have c0 : w3.cell? ⟨tb, 0, none⟩ = some (.bool fb) := hB3.cell 0
  have c1 : w3.cell? ⟨tb, 1, none⟩ = some (.slice ra rn rc) := hB3.cell 1
  have c2 : w3.cell? ⟨tb, 2, none⟩ = some er := hB3.cell 2
  have c4 : w3.cell? ⟨tb, 4, none⟩ = some (.slice ao n cp) := hB3.cell 4
  have f4 := hB3.frozen 4
  have q0 : w3.cell? ⟨w.heap.size, 0, none⟩ = some (.bool false) := hR3.cell 0
  have q1 : w3.cell? ⟨w.heap.size, 1, none⟩ = some (.slice none 0 0) := hR3.cell 1
  have r0 := hR3.frozen 0
  have r1 := hR3.frozen 1
  have hl3 := hB3.lt
  have hl4 := hR3.lt
  go_wp2_with fail
  go_region
  go_wp2_with fail
  have hne2 : w.heap.size ≠ tb := by omega
  have hR4 : Blk (((w3.setCell ⟨tb, 4, none⟩ (.slice (some ⟨r3, 0, none⟩) (n + 1) cap3)).setCell ⟨w.heap.size, 0, none⟩ (.bool fb)).setCell ⟨w.heap.size, 1, none⟩ (.slice ra rn rc)).drew w.heap.size 33 #[.bool fb, .slice ra rn rc] :=
    (((hR3.setOther hne2 _).set 0 _).set 1 _).drewN 1
  refine bodyPost_ret (results_row_tmp rfl _ _ w.heap.size 33 #[.bool fb, .slice ra rn rc] _ rfl hR4 Ybaf.underlying33 rfl size33) rfl ?_
  have hB4 : Blk (((w3.setCell ⟨tb, 4, none⟩ (.slice (some ⟨r3, 0, none⟩) (n + 1) cap3)).setCell ⟨w.heap.size, 0, none⟩ (.bool fb)).setCell ⟨w.heap.size, 1, none⟩ (.slice ra rn rc)).drew tb 38 #[.bool fb, .slice ra rn rc, er, .int .i64 ((n : Int) + 1), .slice (some ⟨r3, 0, none⟩) (n + 1) cap3] :=
    (((hB3.set 4 _).setOther (Ne.symm hne2) _).setOther (Ne.symm hne2) _).drewN 1
  have hr3 : base ≤ r3 ∧ some w.heap.size ≠ (Value.slice (some ⟨r3, 0, none⟩) (n + 1) cap3).ownBlock :=
    ⟨(hown3.lt _ rfl).1, own_ne hown3 hR3 (by decide)⟩
  have ht3 : some tb ≠ (Value.slice (some ⟨r3, 0, none⟩) (n + 1) cap3).ownBlock := own_lo hown3 hlo
  have hsz3 : w.heap.size ≤ w3.heap.size := k3.size
  refine ⟨rfl, ⟨.slice (some ⟨r3, 0, none⟩) (n + 1) cap3, ⟨?_, ?_, hlo, ?_, ?_⟩⟩, ?_⟩
  · rw [show (((ps ++ [p]).length : Nat) : Int) = (n : Int) + 1 from by rw [HN.out]; simp]
    exact hB4
  · rw [show (ps ++ [p]).length = n + 1 from by rw [HN.out]; simp, List.map_append]
    exact ownsRow_drewN (ownsRow_store (ownsRow_store (ownsRow_store hown3 ht3 _ _) hr3.2 _ _) hr3.2 _ _) 1
  · simp [World.setCell, World.drew]; omega
  · simp [← HN.out]; omega
  · exact (((k3.setCell (a := ⟨tb, 4, none⟩) (Or.inl rfl) _).setNew (a := ⟨w.heap.size, 0, none⟩) (Nat.le_refl _) _).setNew (a := ⟨w.heap.size, 1, none⟩) (Nat.le_refl _) _).drew
end Go.Proofs.YbulkbrtmFmt
