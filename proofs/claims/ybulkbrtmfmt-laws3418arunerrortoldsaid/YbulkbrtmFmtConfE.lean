import Derived.Test.YbulkbrtmFmtTrialE
import Derived.Deep.RegionWith
set_option linter.unusedVariables false
set_option linter.unusedSimpArgs false
set_option maxHeartbeats 8000000
set_option maxRecDepth 1000000
namespace Go.Proofs.YbulkbrtmFmt
open Go.RowKit Go.Sort Go.Proofs Go.Deep Go.Kit
open Go.Extern.Stop Go.Stop Go.Extern

theorem size47 : (Ybaf.prog.info? 47).map (·.size) = some 4 := by kernel_rfl
theorem Keeps.drewLeft {S : Nat → Prop} {w w' : World} (h : Keeps S w.drew w') : Keeps S w w' := ⟨h.os, h.tape, h.output, h.size, h.block⟩

theorem Tgt.stores {w : World} {tb base : Nat} {fb : Bool} {ra : Option Addr} {rn rc : Nat} {er : Value} {ps : List ByteArray} {pv : Value} {ob : Nat} {cs : Array Value} (h : Tgt w tb base fb ra rn rc er ps pv) (hq : Blk w ob 33 cs) (u v : Value) : Tgt ((w.setCell ⟨ob, 0, none⟩ u).setCell ⟨ob, 1, none⟩ v) tb base fb ra rn rc er ps pv := by
  have hb : tb ≠ ob := blk_ne h.blk hq (by decide)
  have ho : some ob ≠ pv.ownBlock := own_ne h.own hq (by decide)
  exact ⟨(h.blk.setOther hb _).setOther hb _, ownsRow_store (ownsRow_store h.own ho _ _) ho _ _, h.lo, by simp [World.setCell]; exact h.hi, h.few⟩
theorem Blk.stores {w : World} {k ob : Nat} {t : TypeId} {cs cs' : Array Value} (h : Blk w k t cs) (hq : Blk w ob 33 cs') (ht : t ≠ 33) (u v : Value) : Blk ((w.setCell ⟨ob, 0, none⟩ u).setCell ⟨ob, 1, none⟩ v) k t cs :=
  (h.setOther (blk_ne h hq ht) _).setOther (blk_ne h hq ht) _

theorem confirm_err (F : Interp) (w : World) (hF : F.told.answers w.tape) (sb tb eb : Nat) (checks : Nat) (h1 : 1 ≤ checks) (h3 : checks ≤ 3) (rs : Bool) (sv dv : Value) (fails inv : Bool) (s : ByteArray) (B : Nat) (v : Value) (d : Array Int)
    (hS : Blk w sb 45 (sCells tb checks rs sv dv fails inv)) (hT : Blk w tb 38 #[.bool false, .slice none 0 0, .iface 73 (.pointer (some ⟨eb, 0, none⟩)), .int .i64 0, .slice none 0 0]) (hE : Blk w eb 75 #[.string s])
    (hO : Own B w v d) (hl : d.size ≤ 1024) (hwf : ∀ x ∈ d.toList, (Lit.int .u64 x).wf = true) (hn1 : v.ownBlock ≠ some sb) (hn2 : v.ownBlock ≠ some tb) (hn3 : v.ownBlock ≠ some eb) :
    Calls Ybaf.prog 6 #[.pointer (some ⟨sb, 0, none⟩), v] w fun e w' => ∃ k x, e = .returned (.tuple #[.agg #[.slice none 0 0, .slice none 0 0, .bool false, .bool false], .iface 99 (.pointer (some ⟨k, 0, none⟩))]) ∧
      Blk w' k 158 #[.string x, .iface 73 (.pointer (some ⟨eb, 0, none⟩))] ∧ (∃ r pv, Blk w' tb 38 #[.bool false, .slice none 0 0, .iface 73 (.pointer (some ⟨eb, 0, none⟩)), .int .i64 1, .slice (some ⟨pv, 0, none⟩) 1 r] ∧ ∃ l, w'.cell? ⟨pv, 0, none⟩ = some (.string ⟨(118 :: l).toArray⟩)) ∧
      Keeps (fun b => b = tb ∨ v.ownBlock = some b) w w' := by
  have hsl := hS.lt
  have htl := hT.lt
  have hR0 : Blk (w.alloc (.cells #[.slice none 0 0, .slice none 0 0, .bool false, .bool false] 47)) w.heap.size 47 #[.slice none 0 0, .slice none 0 0, .bool false, .bool false] := Blk.new _ _ _
  have ka : Keeps (fun _ => False) w (w.alloc (.cells #[.slice none 0 0, .slice none 0 0, .bool false, .bool false] 47)) := (Keeps.refl _ _).alloc _
  have hlt0 := hO.lt
  have hs := sort_own B _ v d (hO.keeps ka (fun _ x => x.elim)) (by omega)
  obtain ⟨av, cap, rfl⟩ := hO.slice
  obtain ⟨n, hn⟩ : ∃ n, n = d.size := ⟨_, rfl⟩
  rw [← hn] at hs hn1 hn2 hn3 hl hO hlt0 ⊢
  have HN := hid hn
  have HO := hid hO
  clear hn hO
  go_enter Ybaf.func6, Ybaf.ntmps6
  go_wp2_with fail
  refine hs.mono ?_
  rintro e w1 ⟨rfl, hO1, k1⟩
  clear hs
  have hnR : (Value.slice av n cap).ownBlock ≠ some w.heap.size := fun e => by have := (hlt0 _ e).2; omega
  have hS1 := (hS.keeps ka (fun x => x)).keeps k1 hn1
  have hT1 := (hT.keeps ka (fun x => x)).keeps k1 hn2
  have hE1 := (hE.keeps ka (fun x => x)).keeps k1 hn3
  have hR1 := hR0.keeps k1 hnR
  have hF1 : F.told.answers w1.tape := by rw [k1.tape]; exact hF
  have hsz1 : (Sort.sort ltInt d).size = n := by rw [sort_size]; exact HN.out.symm
  have hwf1 : ∀ x ∈ (Sort.sort ltInt d).toList, (Lit.int .u64 x).wf = true := fun x hx => hwf x ((sort_perm d).mem_iff.1 hx)
  have c1 : w1.cell? ⟨sb, 2, none⟩ = some (.int .i64 checks) := hS1.cell 2
  have kw1 : Keeps (fun b => b = tb ∨ (Value.slice av n cap).ownBlock = some b) w w1 := (ka.mono fun _ _ x => x.elim).trans (k1.mono fun _ _ x => Or.inr x)
  clear k1 ka hR0
  have hexa : ∀ wx : World, Keeps (fun _ => False) w1 wx → Calls Ybaf.prog 16 #[.slice av n cap] wx fun e w' => ∃ g, e = .returned (.slice (some ⟨g, 0, none⟩) n n) ∧ Grps w' g (Sort.sort ltInt d) ∧ Keeps (fun _ => False) w1 w' ∧ Keeps (fun _ => False) wx w' := fun wx kx => by
    have := exacts_calls B wx (.slice av n cap) (Sort.sort ltInt d) (hO1.keeps kx (fun _ x => x.elim)) (by omega)
    rw [hsz1] at this
    exact this.mono fun e w' ⟨g, he, hg, k⟩ => ⟨g, he, hg, kx.trans k, k⟩
  have hpat : ∀ (wx : World) (g : Nat), Keeps (fun _ => False) w1 wx → Grps wx g (Sort.sort ltInt d) →
      Calls Ybaf.prog 15 #[.pointer (some ⟨sb, 0, none⟩), .slice (some ⟨g, 0, none⟩) n n] wx fun e w' => ∃ r : List UInt8, e = .returned (.string ⟨(118 :: r).toArray⟩) ∧ Keeps (fun _ => False) w1 w' ∧ Keeps (fun _ => False) wx w' := fun wx g kx hg => by
    have := pattern_calls F wx (by rw [kx.tape]; exact hF1) sb g _ inv (Sort.sort ltInt d) (hS1.keeps kx (fun x => x)) rfl hg (by omega) hwf1
    rw [hsz1] at this
    exact this.mono fun e w' ⟨g, he, k⟩ => ⟨g, he, kx.trans k, k⟩
  have htri : ∀ (wx : World) (p : ByteArray), Keeps (fun _ => False) w1 wx →
      Calls Ybaf.prog 14 #[.pointer (some ⟨sb, 0, none⟩), .string p, .int .i64 (checks : Int)] wx fun e w' => ∃ k x, e = .returned (.tuple #[.agg #[.bool false, .slice none 0 0], .iface 99 (.pointer (some ⟨k, 0, none⟩))]) ∧
      Blk w' k 158 #[.string x, .iface 73 (.pointer (some ⟨eb, 0, none⟩))] ∧ (∃ pv B', Tgt w' tb B' false none 0 0 (.iface 73 (.pointer (some ⟨eb, 0, none⟩))) [p] pv) ∧ Keeps (fun b => b = tb) wx w' ∧ Keeps (fun b => b = tb) w1 w' := fun wx p kx => by
    have hTx := hT1.keeps kx (fun x => x)
    refine (trial_err F.told wx (by rw [kx.tape]; exact hF1) sb tb eb checks rs sv dv fails inv p s checks h1 h3 (hS1.keeps kx (fun x => x)) ⟨hTx, World.ownsRow_nil _ _ _ _, hTx.lt, Nat.le_refl _, by simp⟩ (hE1.keeps kx (fun x => x))).mono ?_
    rintro e w' ⟨k, x, he, hk, ⟨pv, hT⟩, kk⟩
    exact ⟨k, x, he, hk, ⟨pv, _, hT⟩, kk, (kx.mono fun _ _ x => x.elim).trans kk⟩
  have hcell : ∀ wx : World, Keeps (fun _ => False) w1 wx → wx.cell? ⟨sb, 2, none⟩ = some (.int .i64 checks) := fun wx kx => (hS1.keeps kx (fun x => x)).cell 2
  have hgal : ∀ (wx : World) (o : Obj) (g : Nat), Grps wx g (Sort.sort ltInt d) → Grps (wx.alloc o) g (Sort.sort ltInt d) := fun wx o g ⟨cs, hb, hr⟩ => ⟨cs, hb.alloc o, hr⟩
  go_upto_region 2 with fail
  go_cut [6, 7] from 21 to 33 (fun _ v7 wx => ∃ (k : Nat) (x : ByteArray) (pv : Value) (B' : Nat) (r : List UInt8), v7 = .iface 99 (.pointer (some ⟨k, 0, none⟩)) ∧ Blk wx k 158 #[.string x, .iface 73 (.pointer (some ⟨eb, 0, none⟩))] ∧
    Tgt wx tb B' false none 0 0 (.iface 73 (.pointer (some ⟨eb, 0, none⟩))) [⟨(118 :: r).toArray⟩] pv ∧ Keeps (fun b => b = tb) w1 wx)
  case first =>
    have l1 := hS1.lt
    have hno : ∀ (wx : World), Keeps (fun _ => False) w1 wx → wx.heap.size ≠ tb := fun wx kx e => by have := kx.size; have := hT1.lt; omega
    go_region_with (first
      | (go_at_call 16; refine (hexa _ ?_).mono ?_; (first | exact (Keeps.refl _ _).drew | exact ((Keeps.refl _ _).drew).alloc _); rintro e w2 ⟨g, rfl, hg, kA, kA'⟩; have c2 := hcell w2 kA; have l2 := (hS1.keeps kA (fun x => x)).lt; (try have hq : Blk w2 w1.heap.size 33 #[.bool false, .slice none 0 0] := (Blk.new w1.drew 33 #[.bool false, .slice none 0 0]).keeps kA' (fun x => x)))
      | (go_at_call 15; refine (hpat _ g ?_ ?_).mono ?_; (first | exact kA | exact kA.alloc _); (first | exact hg | exact hgal _ _ _ hg); rintro e w3 ⟨r, rfl, kB, kB'⟩; have c3 := hcell w3 kB; have l3 := (hS1.keeps kB (fun x => x)).lt; (first | (have hq2 := hq.keeps kB' (fun x => x); have hne2 := hno _ (Keeps.refl _ w1)) | (have hq2 := (Blk.new w2 33 #[.bool false, .slice none 0 0]).keeps kB' (fun x => x); have hne2 := hno w2 kA) | skip))
      | (go_at_call 14; refine (htri _ _ ?_).mono ?_; (first | exact kB | exact kB.alloc _); rintro e w4 ⟨k, x, rfl, hk, ⟨pv, B', hT4⟩, kC, kD⟩;
          (first | (have hq3 := hq2.keeps kC hne2) | (have hq3 := (Blk.new w3 33 #[.bool false, .slice none 0 0]).keeps kC (hno w3 kB)) | skip);
          (try (have q0 : w4.cell? ⟨_, 0, none⟩ = some (.bool false) := hq3.cell 0; have q1 : w4.cell? ⟨_, 1, none⟩ = some (.slice none 0 0) := hq3.cell 1; have r0 := hq3.frozen 0; have r1 := hq3.frozen 1; have l4 := hq3.lt))))
    all_goals (
      go_wp2_with fail
      go_meet
      case rel =>
        first
          | exact ⟨k, x, pv, B', r, rfl, hk.alloc _, hT4.keeps (S := fun _ => False) ((Keeps.refl _ _).alloc _) (fun x => x) (fun _ x => x.elim), kD.alloc _⟩
          | exact ⟨k, x, pv, B', r, rfl, hk.stores hq3 (by decide) _ _, hT4.stores hq3 _ _, (kD.setNew (a := ⟨_, 0, none⟩) (by have := kA.size; have := kB.size; simp <;> omega) _).setNew (a := ⟨_, 1, none⟩) (by have := kA.size; have := kB.size; simp <;> omega) _⟩)
  case rest =>
    obtain ⟨k, x, pv, B', r, rfl, hk, hT2, k2⟩ := hcut
    have hne0 : w.heap.size ≠ tb := by omega
    have hR2 := hR1.keeps k2 hne0
    have q0 : wc.cell? ⟨w.heap.size, 0, none⟩ = some (.slice none 0 0) := hR2.cell 0
    have q1 : wc.cell? ⟨w.heap.size, 1, none⟩ = some (.slice none 0 0) := hR2.cell 1
    have q2 : wc.cell? ⟨w.heap.size, 2, none⟩ = some (.bool false) := hR2.cell 2
    have q3 : wc.cell? ⟨w.heap.size, 3, none⟩ = some (.bool false) := hR2.cell 3
    have r0 := hR2.frozen 0
    have r1 := hR2.frozen 1
    have r2 := hR2.frozen 2
    have r3 := hR2.frozen 3
    have lR := hR2.lt
    go_wp2_with fail
    have hR3 : Blk ((((wc.setCell ⟨w.heap.size, 0, none⟩ (.slice none 0 0)).setCell ⟨w.heap.size, 1, none⟩ (.slice none 0 0)).setCell ⟨w.heap.size, 2, none⟩ (.bool false)).setCell ⟨w.heap.size, 3, none⟩ (.bool false)) w.heap.size 47 #[.slice none 0 0, .slice none 0 0, .bool false, .bool false] :=
      (((hR2.set 0 _).set 1 _).set 2 _).set 3 _
    refine bodyPost_ret (results_row_tmp rfl _ _ w.heap.size 47 #[.slice none 0 0, .slice none 0 0, .bool false, .bool false] _ rfl hR3 Ybaf.underlying47 rfl size47) rfl ?_
    have hkn := blk_ne hk hR2 (by decide)
    have htn := Ne.symm hne0
    have hon : some w.heap.size ≠ pv.ownBlock := own_ne hT2.own hR2 (by decide)
    obtain ⟨g, cp, rfl⟩ := ownsRow_succ (n := 0) hT2.own
    have hcell0 : wc.cell? ⟨g, 0, none⟩ = some (.string ⟨(118 :: r).toArray⟩) := hT2.own.cellAt 0 (by simp)
    have hgn : g ≠ w.heap.size := fun e => hon (by rw [e]; rfl)
    refine ⟨k, x, rfl, (((hk.setOther hkn _).setOther hkn _).setOther hkn _).setOther hkn _, ⟨cp, g, (((hT2.blk.setOther htn _).setOther htn _).setOther htn _).setOther htn _, r, ?_⟩, ?_⟩
    · rw [← hcell0]
      have e1 := Below.heap_setCell wc ⟨w.heap.size, 0, none⟩ (.slice none 0 0) g hgn
      have e2 := Below.heap_setCell (wc.setCell ⟨w.heap.size, 0, none⟩ (.slice none 0 0)) ⟨w.heap.size, 1, none⟩ (.slice none 0 0) g hgn
      have e3 := Below.heap_setCell ((wc.setCell ⟨w.heap.size, 0, none⟩ (.slice none 0 0)).setCell ⟨w.heap.size, 1, none⟩ (.slice none 0 0)) ⟨w.heap.size, 2, none⟩ (.bool false) g hgn
      have e4 := Below.heap_setCell (((wc.setCell ⟨w.heap.size, 0, none⟩ (.slice none 0 0)).setCell ⟨w.heap.size, 1, none⟩ (.slice none 0 0)).setCell ⟨w.heap.size, 2, none⟩ (.bool false)) ⟨w.heap.size, 3, none⟩ (.bool false) g hgn
      exact World.cell?_of_block (((e4.trans e3).trans e2).trans e1)
    · exact ((((kw1.trans (k2.mono fun _ _ e => Or.inl e)).setNew (a := ⟨w.heap.size, 0, none⟩) (Nat.le_refl _) _).setNew (a := ⟨w.heap.size, 1, none⟩) (Nat.le_refl _) _).setNew (a := ⟨w.heap.size, 2, none⟩) (Nat.le_refl _) _).setNew (a := ⟨w.heap.size, 3, none⟩) (Nat.le_refl _) _
end Go.Proofs.YbulkbrtmFmt
