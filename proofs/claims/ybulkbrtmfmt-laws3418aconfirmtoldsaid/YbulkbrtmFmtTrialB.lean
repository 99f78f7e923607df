import Derived.Test.YbulkbrtmFmtTrialE
import Derived.Test.YbulkbrtmFmtMaps
set_option linter.unusedVariables false
set_option linter.unusedSimpArgs false
set_option maxHeartbeats 8000000
set_option maxRecDepth 1000000
namespace Go.Proofs.YbulkbrtmFmt
open Go.RowKit Go.Sort Go.Proofs Go.Deep Go.Kit
open Go.Extern.Stop Go.Stop Go.Extern

/-- The reports: IDs and lines, two cells each. -/
def Reps (w : World) (rb rn : Nat) (I : Nat → Int) (T : Nat → ByteArray) : Prop :=
  ∃ cs, Blk w rb 30 cs ∧ ∀ t, t < rn → cs[t * 2]? = some (.int .u64 (I t)) ∧ cs[t * 2 + 1]? = some (.string (T t))
theorem Reps.keeps {w w' : World} {rb rn : Nat} {I : Nat → Int} {T : Nat → ByteArray} {S : Nat → Prop} (h : Reps w rb rn I T) (k : Keeps S w w') (hs : ¬ S rb) : Reps w' rb rn I T := by
  obtain ⟨cs, hb, hr⟩ := h
  exact ⟨cs, hb.keeps k hs, hr⟩
theorem Reps.id {w : World} {rb rn : Nat} {I : Nat → Int} {T : Nat → ByteArray} (h : Reps w rb rn I T) (t : Nat) (ht : t < rn) : w.cell? ⟨rb, t * 2, none⟩ = some (.int .u64 (I t)) := by
  obtain ⟨cs, hb, hr⟩ := h
  rw [hb.cell]; exact (hr t ht).1
theorem Reps.line {w : World} {rb rn : Nat} {I : Nat → Int} {T : Nat → ByteArray} (h : Reps w rb rn I T) (t : Nat) (ht : t < rn) : w.cell? ⟨rb, t * 2 + 1, none⟩ = some (.string (T t)) := by
  obtain ⟨cs, hb, hr⟩ := h
  rw [hb.cell]; exact (hr t ht).2

/-- A failing run that reports nothing, of a target that does not report its selection. -/
theorem trial_bad (F : Interp) (w : World) (hF : F.answers w.tape) (sb tb rb : Nat) (checks : Int) (sv dv : Value) (fails inv : Bool) (p : ByteArray) (n : Nat) (hn : 1 ≤ n) (hn3 : n ≤ 3)
    (hS : Blk w sb 45 (sCells tb checks false sv dv fails inv)) (hT : Tgt w tb w.heap.size true (some ⟨rb, 0, none⟩) 0 0 .nilIface [] (.slice none 0 0)) :
    Calls Ybaf.prog 14 #[.pointer (some ⟨sb, 0, none⟩), .string p, .int .i64 (n : Int)] w fun e w' => ∃ k : Nat, e = .returned (.tuple #[.agg #[.bool false, .slice none 0 0], .iface 52 (.agg #[.iface 73 (.pointer (some ⟨k, 0, none⟩))])]) ∧
      (∃ pv, Tgt w' tb w.heap.size true (some ⟨rb, 0, none⟩) 0 0 .nilIface [p] pv) ∧ Keeps (fun b => b = tb) w w' := by
  have hna := nil_run
  have hme := method_run
  have c0 : w.cell? ⟨sb, 0, none⟩ = some (.iface 31 (.pointer (some ⟨tb, 0, none⟩))) := hS.cell 0
  have hsl := hS.lt
  have htl := hT.blk.lt
  have hst : sb ≠ tb := blk_ne hS hT.blk (by decide)
  go_enter Ybaf.func14, Ybaf.ntmps14
  go_wp2_with fail
  refine wp_loop_rounds 1 ?_
  rw [rounds_succ]
  go_wp2_with fail
  have k2 : Keeps (fun _ => False) w ((w.alloc (.cells #[.bool false, .slice none 0 0] 33)).alloc (.cells #[.bool false, .slice none 0 0] 33)) := ((Keeps.refl _ _).alloc _).alloc _
  have hR2 : Blk ((w.alloc (.cells #[.bool false, .slice none 0 0] 33)).alloc (.cells #[.bool false, .slice none 0 0] 33)) w.heap.size 33 #[.bool false, .slice none 0 0] := (Blk.new _ _ _).alloc _
  refine (run_calls _ tb w.heap.size true (some ⟨rb, 0, none⟩) 0 0 _ [] (.slice none 0 0) p (hT.keeps k2 (fun x => x) (fun _ x => x.elim)) (by simp)).mono ?_
  rintro e w3 ⟨rfl, ⟨pv, hT3⟩, k3⟩
  have k3' : Keeps (fun b => b = tb) ((w.alloc (.cells #[.bool false, .slice none 0 0] 33)).alloc (.cells #[.bool false, .slice none 0 0] 33)) w3 := k3.mono fun b _ h => h.elim id (fun e => by simp [Value.ownBlock] at e)
  have hR3 := hR2.keeps k3' (fun e => by omega)
  have k4 : Keeps (fun b => b = tb) w w3 := (k2.mono fun _ _ x => x.elim).trans k3'
  have hS3 := hS.keeps k4 hst
  have s4 : w3.cell? ⟨sb, 4, none⟩ = some (.bool false) := hS3.cell 4
  have hl3 := hR3.lt
  have hl4 := hS3.lt
  clear k3 k3' hR2 k2
  go_wp2_with fail
  have hvB : Blk ((w3.alloc (.cells #[.bool true, .slice (some ⟨rb, 0, none⟩) 0 0] 33)).alloc (.cells #[.iface 9 (.string p)] 20)) (w3.heap.size + 1) 20 #[.iface 9 (.string p)] := by
    have := Blk.new (w3.alloc (.cells #[.bool true, .slice (some ⟨rb, 0, none⟩) 0 0] 33)) 20 #[.iface 9 (.string p)]
    simpa using this
  refine (errorf_1 F _ (by kernel_rfl) (fun w => by kernel_rfl) _ (by show F.answers w3.tape; rw [k4.tape]; exact hF) _ p (hvB.cell 0)).mono ?_
  rintro e w5 ⟨k, rfl, k5⟩
  have k6 : Keeps (fun _ => False) w3 w5 := (((Keeps.refl _ w3).alloc _).alloc _).trans k5
  have hR5 := hR3.keeps k6 (fun x => x)
  have q0 : w5.cell? ⟨w.heap.size, 0, none⟩ = some (.bool false) := hR5.cell 0
  have q1 : w5.cell? ⟨w.heap.size, 1, none⟩ = some (.slice none 0 0) := hR5.cell 1
  have r0 := hR5.frozen 0
  have r1 := hR5.frozen 1
  have hl5 := hR5.lt
  clear k5 hvB
  go_wp2_with fail
  have hR6 : Blk ((w5.setCell ⟨w.heap.size, 0, none⟩ (.bool false)).setCell ⟨w.heap.size, 1, none⟩ (.slice none 0 0)) w.heap.size 33 #[.bool false, .slice none 0 0] := (hR5.set 0 _).set 1 _
  refine bodyPost_ret (results_row_tmp rfl _ _ w.heap.size 33 #[.bool false, .slice none 0 0] _ rfl hR6 Ybaf.underlying33 rfl size33) rfl ?_
  refine ⟨k, rfl, ⟨pv, ?_⟩, ?_⟩
  · have hT5 := hT3.keeps k6 (fun x => x) (fun _ x => x.elim)
    have hlow : some w.heap.size ≠ pv.ownBlock := own_ne hT5.own hR5 (by decide)
    have hb : tb ≠ w.heap.size := by omega
    exact ⟨(hT5.blk.setOther hb _).setOther hb _, ownsRow_store (ownsRow_store hT5.own hlow _ _) hlow _ _, hT5.lo, by simp [World.setCell]; exact hT5.hi, hT5.few⟩
  · exact ((k4.trans (k6.mono fun _ _ x => x.elim)).setNew (a := ⟨w.heap.size, 0, none⟩) (Nat.le_refl _) _).setNew (a := ⟨w.heap.size, 1, none⟩) (Nat.le_refl _) _
end Go.Proofs.YbulkbrtmFmt
