import Derived.Test.YbulkbrtmFmtErr
set_option linter.unusedVariables false
set_option linter.unusedSimpArgs false
set_option maxHeartbeats 8000000
set_option maxRecDepth 1000000
namespace Go.Proofs.YbulkbrtmFmt
open Go.RowKit Go.Sort Go.Proofs Go.Deep Go.Kit
open Go.Extern.Stop Go.Stop Go.Extern

/-- The searcher's ten cells. -/
def sCells (tb : Nat) (checks : Int) (rs : Bool) (sv dv : Value) (fails inv : Bool) : Array Value :=
  #[.iface 31 (.pointer (some ⟨tb, 0, none⟩)), .int .i64 1, .int .i64 checks, .int .i64 0, .bool rs, sv, dv, .slice none 0 0, .bool fails, .bool inv]

theorem nil_run (tb : Nat) (w : World) : (nilAhead 270 31 (.pointer (some ⟨tb, 0, none⟩)) "Run").run Ybaf.prog w = .ok (some false) w := by kernel_rfl
theorem method_run (tb : Nat) (w : World) : (Go.method 270 31 (.pointer (some ⟨tb, 0, none⟩)) "Run").run Ybaf.prog w = .ok (71, .pointer (some ⟨tb, 0, none⟩)) w := by kernel_rfl

theorem trial_err (F : Interp) (w : World) (hF : F.answers w.tape) (sb tb eb : Nat) (checks : Int) (rs : Bool) (sv dv : Value) (fails inv : Bool) (p s : ByteArray) (n : Nat) (hn : 1 ≤ n) (hn3 : n ≤ 3)
    (hS : Blk w sb 45 (sCells tb checks rs sv dv fails inv)) (hT : Tgt w tb w.heap.size false none 0 0 (.iface 73 (.pointer (some ⟨eb, 0, none⟩))) [] (.slice none 0 0)) (hE : Blk w eb 75 #[.string s]) :
    Calls Ybaf.prog 14 #[.pointer (some ⟨sb, 0, none⟩), .string p, .int .i64 (n : Int)] w fun e w' => ∃ k x, e = .returned (.tuple #[.agg #[.bool false, .slice none 0 0], .iface 99 (.pointer (some ⟨k, 0, none⟩))]) ∧
      Blk w' k 158 #[.string x, .iface 73 (.pointer (some ⟨eb, 0, none⟩))] ∧ (∃ pv, Tgt w' tb w.heap.size false none 0 0 (.iface 73 (.pointer (some ⟨eb, 0, none⟩))) [p] pv) ∧ Keeps (fun b => b = tb) w w' := by
  have hna := nil_run
  have hme := method_run
  have c0 : w.cell? ⟨sb, 0, none⟩ = some (.iface 31 (.pointer (some ⟨tb, 0, none⟩))) := hS.cell 0
  have hsl := hS.lt
  have htl := hT.blk.lt
  go_enter Ybaf.func14, Ybaf.ntmps14
  go_wp2_with fail
  refine wp_loop_rounds 1 ?_
  rw [rounds_succ]
  go_wp2_with fail
  have k2 : Keeps (fun _ => False) w ((w.alloc (.cells #[.bool false, .slice none 0 0] 33)).alloc (.cells #[.bool false, .slice none 0 0] 33)) := ((Keeps.refl _ _).alloc _).alloc _
  have hR2 : Blk ((w.alloc (.cells #[.bool false, .slice none 0 0] 33)).alloc (.cells #[.bool false, .slice none 0 0] 33)) w.heap.size 33 #[.bool false, .slice none 0 0] := (Blk.new _ _ _).alloc _
  refine (run_calls _ tb w.heap.size false none 0 0 _ [] (.slice none 0 0) p (hT.keeps k2 (fun x => x) (fun _ x => x.elim)) (by simp)).mono ?_
  rintro e w3 ⟨rfl, ⟨pv, hT3⟩, k3⟩
  have k3' : Keeps (fun b => b = tb) ((w.alloc (.cells #[.bool false, .slice none 0 0] 33)).alloc (.cells #[.bool false, .slice none 0 0] 33)) w3 := k3.mono fun b _ h => h.elim id (fun e => by simp [Value.ownBlock] at e)
  have hR3 := hR2.keeps k3' (fun e => by omega)
  have hE3 := (hE.keeps k2 (fun x => x)).keeps k3' (fun e => by subst e; exact absurd (blk_inj hE hT.blk).1 (by decide))
  have k4 : Keeps (fun b => b = tb) w w3 := (k2.mono fun _ _ x => x.elim).trans k3'
  have q0 : w3.cell? ⟨w.heap.size, 0, none⟩ = some (.bool false) := hR3.cell 0
  have q1 : w3.cell? ⟨w.heap.size, 1, none⟩ = some (.slice none 0 0) := hR3.cell 1
  have r0 := hR3.frozen 0
  have r1 := hR3.frozen 1
  have hl3 := hR3.lt
  clear k3 k3' hR2 k2
  go_wp2_with fail
  have hvB : Blk ((w3.alloc (.cells #[.bool false, .slice none 0 0] 33)).alloc (.cells #[.iface 9 (.string p), .iface 73 (.pointer (some ⟨eb, 0, none⟩))] 20)) (w3.heap.size + 1) 20 #[.iface 9 (.string p), .iface 73 (.pointer (some ⟨eb, 0, none⟩))] := by
    have := Blk.new (w3.alloc (.cells #[.bool false, .slice none 0 0] 33)) 20 #[.iface 9 (.string p), .iface 73 (.pointer (some ⟨eb, 0, none⟩))]
    simpa using this
  refine (errorf_R F _ (by kernel_rfl) (fun w => by kernel_rfl) _ (by show F.answers w3.tape; rw [k4.tape]; exact hF) _ eb p s (hvB.cell 0) (hvB.cell 1) (((hE3.alloc _).alloc _).cell 0)).mono ?_
  rintro e w5 ⟨k, x, rfl, hk, k5⟩
  have k6 : Keeps (fun _ => False) w3 w5 := (((Keeps.refl _ w3).alloc _).alloc _).trans k5
  have hR5 := hR3.keeps k6 (fun x => x)
  have q0 : w5.cell? ⟨w.heap.size, 0, none⟩ = some (.bool false) := hR5.cell 0
  have q1 : w5.cell? ⟨w.heap.size, 1, none⟩ = some (.slice none 0 0) := hR5.cell 1
  have r0 := hR5.frozen 0
  have r1 := hR5.frozen 1
  have hl5 := hR5.lt
  clear k5 hvB
  go_wp2_with fail
  have hR6 : Blk ((w5.setCell ⟨w.heap.size, 0, none⟩ (.bool false)).setCell ⟨w.heap.size, 1, none⟩ (.slice none 0 0)) w.heap.size 33 #[.bool false, .slice none 0 0] := (hR5.set 0 _).set 1 _
  refine bodyPost_ret (results_row_tmp rfl _ _ w.heap.size 33 #[.bool false, .slice none 0 0] _ rfl hR6 Ybaf.underlying33 rfl size33) rfl ?_
  have hkn : k ≠ w.heap.size := fun e => by subst e; exact absurd (blk_inj hk hR5).1 (by decide)
  refine ⟨k, x, rfl, (hk.setOther hkn _).setOther hkn _, ⟨pv, ?_⟩, ?_⟩
  · have hT5 := hT3.keeps k6 (fun x => x) (fun _ x => x.elim)
    have hlow : some w.heap.size ≠ pv.ownBlock := own_ne hT5.own hR5 (by decide)
    have hb : tb ≠ w.heap.size := by omega
    exact ⟨(hT5.blk.setOther hb _).setOther hb _, ownsRow_store (ownsRow_store hT5.own hlow _ _) hlow _ _, hT5.lo, by simp [World.setCell]; exact hT5.hi, hT5.few⟩
  · exact ((k4.trans (k6.mono fun _ _ x => x.elim)).setNew (a := ⟨w.heap.size, 0, none⟩) (Nat.le_refl _) _).setNew (a := ⟨w.heap.size, 1, none⟩) (Nat.le_refl _) _
end Go.Proofs.YbulkbrtmFmt
