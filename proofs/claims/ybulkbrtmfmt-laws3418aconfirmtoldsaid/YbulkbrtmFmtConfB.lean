import Derived.Test.YbulkbrtmFmtTrialC
import Derived.Test.YbulkbrtmFmtPatB
import Derived.Test.YbulkbrtmFmtSeek
import Derived.Test.YbulkbrtmFmtOwnSort
import Derived.Deep.RegionWith
set_option linter.unusedVariables false
set_option linter.unusedSimpArgs false
set_option maxHeartbeats 8000000
set_option maxRecDepth 1000000
namespace Go.Proofs.YbulkbrtmFmt
open Go.RowKit Go.Sort Go.Proofs Go.Deep Go.Kit
open Go.Extern.Stop Go.Stop Go.Extern
attribute [local go_sem] Ybaf.call17 Ybaf.guard Ybaf.fmtH Ybaf.fmtHr Ybaf.op26_120s

theorem size47 : (Ybaf.prog.info? 47).map (·.size) = some 4 := by kernel_rfl
theorem ownsRow_keeps' {S : Nat → Prop} {w w' : World} {base : Nat} {e : TypeId} {size : Nat} {v : Value} {n : Nat} {xs : List Value} (h : w.ownsRow base e size v n xs) (k : Keeps S w w') (hS : ∀ b, S b → some b ≠ v.ownBlock) : w'.ownsRow base e size v n xs := by
  refine ⟨h.1, ?_⟩
  rcases h.2 with h0 | ⟨g, cap, cur, rfl, hb, hh, hr⟩
  · exact .inl h0
  · exact .inr ⟨g, cap, cur, rfl, hb, (k.block g (Array.getElem?_eq_some_iff.1 hh).1 (fun x => hS g x rfl)).trans hh, hr⟩

theorem result_calls (b : Bool) (w : World) : Calls Ybaf.prog 20 #[.bool b] w fun e w' => ∃ s : ByteArray, e = .returned (.string s) ∧ w' = w := by
  cases b
  · go_enter Ybaf.func20, Ybaf.ntmps20
    go_wp2
    go_ret
    exact ⟨_, rfl, rfl⟩
  · go_enter Ybaf.func20, Ybaf.ntmps20
    go_wp2
    go_ret
    exact ⟨_, rfl, rfl⟩
theorem Own.keeps' {base : Nat} {w w' : World} {v : Value} {d : Array Int} {S : Nat → Prop} (h : Own base w v d) (k : Keeps S w w') (hS : ∀ b, S b → v.ownBlock ≠ some b) : Own base w' v d := by
  rcases h with h | ⟨b, cap, rfl, hH, hb, hl, hc⟩
  · exact .inl h
  · exact .inr ⟨b, cap, rfl, holds_keeps hH hl k (fun x => hS b x rfl), hb, Nat.lt_of_lt_of_le hl k.size, hc⟩
theorem stores4 (w : World) (b : Nat) (x0 x1 x2 x3 : Value) : Keeps (fun c => c = b) w ((((w.setCell ⟨b, 0, none⟩ x0).setCell ⟨b, 1, none⟩ x1).setCell ⟨b, 2, none⟩ x2).setCell ⟨b, 3, none⟩ x3) ∧ True :=
  ⟨((((Keeps.refl _ w).setCell (S := fun c => c = b) (a := ⟨b, 0, none⟩) rfl _).setCell (a := ⟨b, 1, none⟩) rfl _).setCell (a := ⟨b, 2, none⟩) rfl _).setCell (a := ⟨b, 3, none⟩) rfl _, trivial⟩
theorem Keeps.new {S T : Nat → Prop} {w w' w'' : World} (h : Keeps S w w') (k : Keeps T w' w'') (hT : ∀ b, T b → w.heap.size ≤ b) : Keeps S w w'' :=
  ⟨k.os.trans h.os, k.tape.trans h.tape, k.output.trans h.output, Nat.le_trans h.size k.size, fun b hb hs => (k.block b (Nat.lt_of_lt_of_le hb h.size) (fun x => by have := hT b x; omega)).trans (h.block b hb hs)⟩

/-- How a trial ends: no trust, or the outcome. -/
def TP (tb rb m1 m2 rn c : Nat) (fb rs : Bool) (I : Nat → Int) (p : ByteArray) (f' : Bool) (ra : Option Addr) (rn' rc' : Nat) (er : Value) (w : World) : Prop :=
  ((fb = true ∧ rn = 0 ∧ rs = false) ∧ (∃ k : Nat, er = .iface 52 (.agg #[.iface 73 (.pointer (some ⟨k, 0, none⟩))])) ∧ (∃ pv B, Tgt w tb B fb (some ⟨rb, 0, none⟩) rn rn .nilIface [p] pv) ∧ Done0 w m2) ∨
  (¬ (fb = true ∧ rn = 0 ∧ rs = false) ∧ f' = fb ∧ ra = some ⟨rb, 0, none⟩ ∧ rn' = rn ∧ rc' = rn ∧ er = .nilIface ∧ (∃ pv B, Tgt w tb B fb (some ⟨rb, 0, none⟩) rn rn .nilIface (List.replicate c p) pv) ∧ Seen w m1 5000 (fun x => ∃ t, t < rn ∧ I t = x) ∧ Done1 w m2 p fb)

theorem Tgt.keeps33 {w w' : World} {tb base : Nat} {fb : Bool} {ra : Option Addr} {rn rc : Nat} {er : Value} {ps : List ByteArray} {pv : Value} {S : Nat → Prop} (h : Tgt w tb base fb ra rn rc er ps pv) (k : Keeps S w w') (hS : ∀ b, S b → ∃ t cs, Blk w b t cs ∧ t ≠ 38 ∧ t ≠ 9) : Tgt w' tb base fb ra rn rc er ps pv :=
  ⟨h.blk.keeps k (fun x => by obtain ⟨t, cs, hb, h1, _⟩ := hS tb x; exact h1 (blk_inj hb h.blk).1), ownsRow_keeps' h.own k (fun b x => by obtain ⟨t, cs, hb, _, h2⟩ := hS b x; exact own_ne h.own hb h2), h.lo, Nat.le_trans h.hi k.size, h.few⟩
theorem TP.keeps {tb rb m1 m2 rn c : Nat} {fb rs : Bool} {I : Nat → Int} {p : ByteArray} {f' : Bool} {ra : Option Addr} {rn' rc' : Nat} {er : Value} {w w' : World} {S : Nat → Prop} (h : TP tb rb m1 m2 rn c fb rs I p f' ra rn' rc' er w) (k : Keeps S w w') (hS : ∀ b, S b → ∃ t cs, Blk w b t cs ∧ t ≠ 38 ∧ t ≠ 9) : TP tb rb m1 m2 rn c fb rs I p f' ra rn' rc' er w' := by
  rcases h with ⟨h1, h2, ⟨pv, B, hT⟩, hD⟩ | ⟨h1, h2, h3, h4, h5, h6, ⟨pv, B, hT⟩, hM, hD⟩
  · exact .inl ⟨h1, h2, ⟨pv, B, hT.keeps33 k hS⟩, hD.keeps k (fun x => by obtain ⟨t, cs, hb, _⟩ := hS _ x; exact map_ne_blk hD hb rfl)⟩
  · exact .inr ⟨h1, h2, h3, h4, h5, h6, ⟨pv, B, hT.keeps33 k hS⟩, hM.keeps k (fun x => by obtain ⟨t, cs, hb, _⟩ := hS _ x; exact hM.ne_blk hb rfl), hD.keeps k (fun x => by obtain ⟨t, cs, hb, _⟩ := hS _ x; exact map_ne_blk hD hb rfl)⟩

/-- The lines of the reports on the numbers d. -/
def linesOf (d : List Int) (I : Nat → Int) (T : Nat → ByteArray) (n : Nat) : List ByteArray := ((List.range n).filter (fun t => decide (I t ∈ d))).map T
theorem linesOf_succ (d : List Int) (I : Nat → Int) (T : Nat → ByteArray) (n : Nat) : linesOf d I T (n + 1) = linesOf d I T n ++ (if I n ∈ d then [T n] else []) := by
  unfold linesOf
  rw [List.range_succ, List.filter_append, List.map_append]
  by_cases h : I n ∈ d <;> simp [h]
theorem linesOf_len (d : List Int) (I : Nat → Int) (T : Nat → ByteArray) (n : Nat) : (linesOf d I T n).length ≤ n := by
  unfold linesOf
  have := List.length_filter_le (fun t => decide (I t ∈ d)) (List.range n)
  simpa using this

/-- How confirm ends. -/
def CP (tb rb m1 m2 rn c : Nat) (fb rs fails inv : Bool) (I : Nat → Int) (T : Nat → ByteArray) (B : Nat) (v : Value) (d : Array Int) (p : ByteArray) (set er : Value) (w : World) : Prop :=
  ((fb = true ∧ rn = 0 ∧ rs = false) ∧ set = .agg #[.slice none 0 0, .slice none 0 0, .bool false, .bool false] ∧ (∃ k : Nat, er = .iface 52 (.agg #[.iface 73 (.pointer (some ⟨k, 0, none⟩))])) ∧ (∃ pv B', Tgt w tb B' fb (some ⟨rb, 0, none⟩) rn rn .nilIface [p] pv) ∧ Done0 w m2) ∨
  (¬ (fb = true ∧ rn = 0 ∧ rs = false) ∧ (∃ pv B', Tgt w tb B' fb (some ⟨rb, 0, none⟩) rn rn .nilIface (List.replicate c p) pv) ∧ Seen w m1 5000 (fun x => ∃ t, t < rn ∧ I t = x) ∧ Done1 w m2 p fb ∧
    ((fb ≠ fails ∧ set = .agg #[.slice none 0 0, .slice none 0 0, .bool false, .bool false] ∧ ∃ k : Nat, er = .iface 52 (.agg #[.iface 73 (.pointer (some ⟨k, 0, none⟩))])) ∨
     (fb = fails ∧ er = .nilIface ∧ ∃ lv, set = .agg #[v, lv, .bool fails, .bool inv] ∧ Own B w v (Sort.sort ltInt d) ∧ ∃ BL, w.ownsRow BL 9 1 lv (linesOf d.toList I T rn).length ((linesOf d.toList I T rn).map Value.string))))

theorem confirm_calls (F : Interp) (w : World) (hF : F.told.answers w.tape) (sb tb rb m1 m2 c : Nat) (h1 : 1 ≤ c) (h3 : c ≤ 3) (rs fb fails inv : Bool) (rn : Nat) (I : Nat → Int) (T : Nat → ByteArray) (B : Nat) (v : Value) (d : Array Int) (hrn : rn ≤ 1024)
    (hwfI : ∀ t, t < rn → (Lit.int .u64 (I t)).wf = true) (hm12 : m1 ≠ m2)
    (hS : Blk w sb 45 (sCells tb c rs (.map (some m1)) (.map (some m2)) fails inv)) (hT : Blk w tb 38 #[.bool fb, .slice (some ⟨rb, 0, none⟩) rn rn, .nilIface, .int .i64 0, .slice none 0 0])
    (hRp : Reps w rb rn I T) (hM1 : Seen w m1 0 (fun _ => False)) (hM2 : Done0 w m2)
    (hO : Own B w v d) (hl : d.size ≤ 1024) (hwf : ∀ x ∈ d.toList, (Lit.int .u64 x).wf = true) (hn1 : v.ownBlock ≠ some sb) (hn2 : v.ownBlock ≠ some tb) (hn3 : v.ownBlock ≠ some rb) (hn4 : v.ownBlock ≠ some m1) (hn5 : v.ownBlock ≠ some m2) :
    Calls Ybaf.prog 6 #[.pointer (some ⟨sb, 0, none⟩), v] w fun e w' => ∃ (r : List UInt8) (set er : Value), e = .returned (.tuple #[set, er]) ∧ r.length ≤ 300000 ∧ CP tb rb m1 m2 rn c fb rs fails inv I T B v d ⟨(118 :: r).toArray⟩ set er w' ∧
      Keeps (fun b => b = tb ∨ b = m1 ∨ b = m2 ∨ v.ownBlock = some b) w w' := by
  have hsl := hS.lt
  have htl := hT.lt
  have hst : sb ≠ tb := blk_ne hS hT (by decide)
  have hsm1 : sb ≠ m1 := Ne.symm (hM1.ne_blk hS)
  have hsm2 : sb ≠ m2 := Ne.symm (map_ne_blk hM2 hS)
  have hrt : rb ≠ tb := by obtain ⟨cs, hb, _⟩ := hRp; exact blk_ne hb hT (by decide)
  have hrm1 : rb ≠ m1 := by obtain ⟨cs, hb, _⟩ := hRp; exact Ne.symm (hM1.ne_blk hb)
  have hrm2 : rb ≠ m2 := by obtain ⟨cs, hb, _⟩ := hRp; exact Ne.symm (map_ne_blk hM2 hb)
  have hm1l := hM1.lt
  have hm2l := World.ownsMap.lt hM2
  have hR0 : Blk (w.alloc (.cells #[.slice none 0 0, .slice none 0 0, .bool false, .bool false] 47)) w.heap.size 47 #[.slice none 0 0, .slice none 0 0, .bool false, .bool false] := Blk.new _ _ _
  have ka : Keeps (fun _ => False) w (w.alloc (.cells #[.slice none 0 0, .slice none 0 0, .bool false, .bool false] 47)) := (Keeps.refl _ _).alloc _
  have hlt0 := hO.lt
  have hs := sort_own B _ v d (hO.keeps ka (fun _ x => x.elim)) (by omega)
  obtain ⟨av, cap, rfl⟩ := hO.slice
  obtain ⟨n, hn⟩ : ∃ n, n = d.size := ⟨_, rfl⟩
  rw [← hn] at hs hn1 hn2 hn3 hn4 hn5 hl hO hlt0 ⊢
  have HN := hid hn
  clear hn hO
  go_enter Ybaf.func6, Ybaf.ntmps6
  go_wp2_with fail
  refine hs.mono ?_
  rintro e w1 ⟨rfl, hO1, k1⟩
  clear hs
  have hnR : (Value.slice av n cap).ownBlock ≠ some w.heap.size := fun e => by have := (hlt0 _ e).2; omega
  have hS1 := (hS.keeps ka (fun x => x)).keeps k1 hn1
  have hT1 := (hT.keeps ka (fun x => x)).keeps k1 hn2
  have hRp1 := (hRp.keeps ka (fun x => x)).keeps k1 hn3
  have hM11 := (hM1.keeps ka (fun x => x)).keeps k1 hn4
  have hM21 := (hM2.keeps ka (fun x => x)).keeps k1 hn5
  have hR1 := hR0.keeps k1 hnR
  have hF1 : F.told.answers w1.tape := by rw [k1.tape]; exact hF
  have hsz1 : (Sort.sort ltInt d).size = n := by rw [sort_size]; exact HN.out.symm
  have hwf1 : ∀ x ∈ (Sort.sort ltInt d).toList, (Lit.int .u64 x).wf = true := fun x hx => hwf x ((sort_perm d).mem_iff.1 hx)
  have c1 : w1.cell? ⟨sb, 2, none⟩ = some (.int .i64 c) := hS1.cell 2
  have kw1 : Keeps (fun b => b = tb ∨ b = m1 ∨ b = m2 ∨ (Value.slice av n cap).ownBlock = some b) w w1 := (ka.mono fun _ _ x => x.elim).trans (k1.mono fun _ _ x => Or.inr (Or.inr (Or.inr x)))
  have hsw1 : w.heap.size + 1 ≤ w1.heap.size := by have := hR1.lt; omega
  clear k1 ka hR0
  have hexa : ∀ wx : World, Keeps (fun _ => False) w1 wx → Calls Ybaf.prog 16 #[.slice av n cap] wx fun e w' => ∃ g, e = .returned (.slice (some ⟨g, 0, none⟩) n n) ∧ Grps w' g (Sort.sort ltInt d) ∧ Keeps (fun _ => False) w1 w' ∧ Keeps (fun _ => False) wx w' := fun wx kx => by
    have := exacts_calls B wx (.slice av n cap) (Sort.sort ltInt d) (hO1.keeps kx (fun _ x => x.elim)) (by omega)
    rw [hsz1] at this
    exact this.mono fun e w' ⟨g, he, hg, k⟩ => ⟨g, he, hg, kx.trans k, k⟩
  have hpat : ∀ (wx : World) (g : Nat), Keeps (fun _ => False) w1 wx → Grps wx g (Sort.sort ltInt d) →
      Calls Ybaf.prog 15 #[.pointer (some ⟨sb, 0, none⟩), .slice (some ⟨g, 0, none⟩) n n] wx fun e w' => ∃ r : List UInt8, e = .returned (.string ⟨(118 :: r).toArray⟩) ∧ r.length ≤ 300000 ∧ Keeps (fun _ => False) w1 w' ∧ Keeps (fun _ => False) wx w' := fun wx g kx hg => by
    have := pattern_len F wx (by rw [kx.tape]; exact hF1) sb g _ inv (Sort.sort ltInt d) (hS1.keeps kx (fun x => x)) rfl hg (by omega) hwf1
    rw [hsz1] at this
    exact this.mono fun e w' ⟨g, he, hr, k⟩ => ⟨g, he, hr, kx.trans k, k⟩
  have htri : ∀ (wx : World) (p : ByteArray), p.size ≤ maxLen → Keeps (fun _ => False) w1 wx →
      Calls Ybaf.prog 14 #[.pointer (some ⟨sb, 0, none⟩), .string p, .int .i64 (c : Int)] wx fun e w' => ∃ f' ra rn' rc' er, e = .returned (.tuple #[.agg #[.bool f', .slice ra rn' rc'], er]) ∧ TP tb rb m1 m2 rn c fb rs I p f' ra rn' rc' er w' ∧
        Keeps (fun b => b = tb ∨ b = m1 ∨ b = m2) wx w' ∧ Keeps (fun b => b = tb ∨ b = m1 ∨ b = m2) w1 w' := fun wx p hp kx => by
    have hTx := hT1.keeps kx (fun x => x)
    have hSx := hS1.keeps kx (fun x => x)
    have hDx := hM21.keeps kx (fun x => x)
    by_cases hbad : fb = true ∧ rn = 0 ∧ rs = false
    · obtain ⟨rfl, rfl, rfl⟩ := hbad
      refine (trial_bad F.told wx (by rw [kx.tape]; exact hF1) sb tb rb c _ _ fails inv p c h1 h3 hSx ⟨hTx, World.ownsRow_nil _ _ _ _, hTx.lt, Nat.le_refl _, by simp⟩).mono ?_
      rintro e w' ⟨k, he, hT', kk⟩
      obtain ⟨pv, hT'⟩ := hT'
      exact ⟨_, _, _, _, _, he, .inl ⟨⟨rfl, rfl, rfl⟩, ⟨k, rfl⟩, ⟨pv, _, hT'⟩, hDx.keeps kk (map_ne_blk hDx hTx)⟩, kk.mono fun b _ e => Or.inl e, (kx.mono fun _ _ x => x.elim).trans (kk.mono fun b _ e => Or.inl e)⟩
    · refine (trial_ok F.told wx sb tb rb m1 m2 c rs fb fails inv rn I T p hp c h1 h3 hrn hwfI hbad hm12 hSx ⟨hTx, World.ownsRow_nil _ _ _ _, hTx.lt, Nat.le_refl _, by simp⟩ (hRp1.keeps kx (fun x => x)) (hM11.keeps kx (fun x => x)) hDx).mono ?_
      rintro e w' ⟨he, ⟨pv, hT'⟩, hM', hD', kk⟩
      exact ⟨_, _, _, _, _, he, .inr ⟨hbad, rfl, rfl, rfl, rfl, rfl, ⟨pv, _, hT'⟩, hM', hD'⟩, kk, (kx.mono fun _ _ x => x.elim).trans kk⟩
  have hcell : ∀ wx : World, Keeps (fun _ => False) w1 wx → wx.cell? ⟨sb, 2, none⟩ = some (.int .i64 c) := fun wx kx => (hS1.keeps kx (fun x => x)).cell 2
  have hgal : ∀ (wx : World) (o : Obj) (g : Nat), Grps wx g (Sort.sort ltInt d) → Grps (wx.alloc o) g (Sort.sort ltInt d) := fun wx o g ⟨cs, hb, hr⟩ => ⟨cs, hb.alloc o, hr⟩
  have hmx : ∀ r : List UInt8, r.length ≤ 300000 → (⟨(118 :: r).toArray⟩ : ByteArray).size ≤ maxLen := fun r hr => by
    show (118 :: r).toArray.size ≤ maxLen
    simp [maxLen]; omega
  go_upto_region 2 with fail
  go_cut [6, 7] from 21 to 33 (fun v6 v7 wx => ∃ (ob : Nat) (f' : Bool) (ra : Option Addr) (rn' rc' : Nat) (er : Value) (r : List UInt8), v6 = .pointer (some ⟨ob, 0, none⟩) ∧ v7 = er ∧ Blk wx ob 33 #[.bool f', .slice ra rn' rc'] ∧ r.length ≤ 300000 ∧
    TP tb rb m1 m2 rn c fb rs I ⟨(118 :: r).toArray⟩ f' ra rn' rc' er wx ∧ Keeps (fun b => b = tb ∨ b = m1 ∨ b = m2) w1 wx)
  case first =>
    have l1 := hS1.lt
    have hno : ∀ (wx : World), Keeps (fun _ => False) w1 wx → ¬ (wx.heap.size = tb ∨ wx.heap.size = m1 ∨ wx.heap.size = m2) := fun wx kx e => by have := kx.size; omega
    go_region_with (first
      | (go_at_call 16; refine (hexa _ ?_).mono ?_; (first | exact (Keeps.refl _ _).drew | exact ((Keeps.refl _ _).drew).alloc _); rintro e w2 ⟨g, rfl, hg, kA, kA'⟩; have c2 := hcell w2 kA; have l2 := (hS1.keeps kA (fun x => x)).lt; (try have hq : Blk w2 w1.heap.size 33 #[.bool false, .slice none 0 0] := (Blk.new w1.drew 33 #[.bool false, .slice none 0 0]).keeps kA' (fun x => x)))
      | (go_at_call 15; refine (hpat _ g ?_ ?_).mono ?_; (first | exact kA | exact kA.alloc _); (first | exact hg | exact hgal _ _ _ hg); rintro e w3 ⟨r, rfl, hr, kB, kB'⟩; have c3 := hcell w3 kB; have l3 := (hS1.keeps kB (fun x => x)).lt; (first | (have hq2 := hq.keeps kB' (fun x => x); have hne2 := hno _ (Keeps.refl _ w1)) | (have hq2 := (Blk.new w2 33 #[.bool false, .slice none 0 0]).keeps kB' (fun x => x); have hne2 := hno w2 kA) | skip))
      | (go_at_call 14; refine (htri _ _ (hmx r hr) ?_).mono ?_; (first | exact kB | exact kB.alloc _); rintro e w4 ⟨f', ra, rn', rc', er, rfl, hTP, kC, kD⟩;
          (first | (have hq3 := hq2.keeps kC hne2) | (have hq3 := (Blk.new w3 33 #[.bool false, .slice none 0 0]).keeps kC (hno w3 kB)) | skip);
          (try (have q0 : w4.cell? ⟨_, 0, none⟩ = some (.bool false) := hq3.cell 0; have q1 : w4.cell? ⟨_, 1, none⟩ = some (.slice none 0 0) := hq3.cell 1; have r0 := hq3.frozen 0; have r1 := hq3.frozen 1; have l4 := hq3.lt))))
    all_goals (
      go_wp2_with fail
      go_meet
      case rel =>
        first
          | exact ⟨_, f', ra, rn', rc', er, r, rfl, rfl, Blk.new _ _ _, hr, hTP.keeps (S := fun _ => False) ((Keeps.refl _ _).alloc _) (fun _ x => x.elim), kD.alloc _⟩
          | exact ⟨_, f', ra, rn', rc', er, r, rfl, rfl, (hq3.set 0 _).set 1 _, hr, hTP.keeps (Keeps.setCell (Keeps.setCell (S := fun b => b = _) (a := ⟨_, 0, none⟩) (Keeps.refl _ _) rfl _) (a := ⟨_, 1, none⟩) rfl _) (fun b e => by subst e; exact ⟨_, _, hq3, by decide, by decide⟩), (kD.setNew (a := ⟨_, 0, none⟩) (by have := kA.size; have := kB.size; simp <;> omega) _).setNew (a := ⟨_, 1, none⟩) (by have := kA.size; have := kB.size; simp <;> omega) _⟩)
  case rest =>
    obtain ⟨ob, f', ra, rn', rc', er, r, rfl, rfl, hOb, hr, hTP, k2⟩ := hcut
    have hne0 : ¬ (w.heap.size = tb ∨ w.heap.size = m1 ∨ w.heap.size = m2) := fun h => by omega
    have hR2 := hR1.keeps k2 hne0
    have hS2 := hS1.keeps k2 (fun h => h.elim hst (fun h => h.elim hsm1 hsm2))
    have hRp2 := hRp1.keeps k2 (fun h => h.elim hrt (fun h => h.elim hrm1 hrm2))
    have hO2 := hO1.keeps' k2 (fun b hb e => by rcases hb with rfl | rfl | rfl <;> contradiction)
    have kw2 : Keeps (fun b => b = tb ∨ b = m1 ∨ b = m2 ∨ (Value.slice av n cap).ownBlock = some b) w wc := kw1.trans (k2.mono fun b _ h => h.elim Or.inl (fun h => Or.inr (h.elim Or.inl (fun h => Or.inr (Or.inl h)))))
    have q0 : wc.cell? ⟨w.heap.size, 0, none⟩ = some (.slice none 0 0) := hR2.cell 0
    have q1 : wc.cell? ⟨w.heap.size, 1, none⟩ = some (.slice none 0 0) := hR2.cell 1
    have q2 : wc.cell? ⟨w.heap.size, 2, none⟩ = some (.bool false) := hR2.cell 2
    have q3 : wc.cell? ⟨w.heap.size, 3, none⟩ = some (.bool false) := hR2.cell 3
    have r0 := hR2.frozen 0
    have r1 := hR2.frozen 1
    have r2 := hR2.frozen 2
    have r3 := hR2.frozen 3
    have lR := hR2.lt
    have ls2 := hS2.lt
    clear hexa hpat htri hcell hgal hmx hS1 hT1 hRp1 hM11 hM21 hR1 hO1 k2 kw1 c1
    rcases hTP with ⟨hbad, ⟨kk, rfl⟩, ⟨pv, B', hT2⟩, hD2⟩ | ⟨hgood, rfl, rfl, rfl, rfl, rfl, ⟨pv, B', hT2⟩, hM2', hD2⟩
    · go_wp2_with fail
      have hR3 : Blk ((((wc.setCell ⟨w.heap.size, 0, none⟩ (.slice none 0 0)).setCell ⟨w.heap.size, 1, none⟩ (.slice none 0 0)).setCell ⟨w.heap.size, 2, none⟩ (.bool false)).setCell ⟨w.heap.size, 3, none⟩ (.bool false)) w.heap.size 47 #[.slice none 0 0, .slice none 0 0, .bool false, .bool false] :=
        (((hR2.set 0 _).set 1 _).set 2 _).set 3 _
      refine bodyPost_ret (results_row_tmp rfl _ _ w.heap.size 47 #[.slice none 0 0, .slice none 0 0, .bool false, .bool false] _ rfl hR3 Ybaf.underlying47 rfl size47) rfl ?_
      obtain ⟨k4, kn⟩ := stores4 wc w.heap.size (.slice none 0 0) (.slice none 0 0) (.bool false) (.bool false)
      refine ⟨r, _, _, rfl, hr, .inl ⟨hbad, rfl, ⟨kk, rfl⟩, ⟨pv, B', hT2.keeps33 k4 (fun b e => by subst e; exact ⟨_, _, hR2, by decide, by decide⟩)⟩, hD2.keeps k4 (map_ne_blk hD2 hR2)⟩, kw2.new k4 (fun b e => by omega)⟩
    · have s8 : wc.cell? ⟨sb, 8, none⟩ = some (.bool fails) := hS2.cell 8
      have o0 : wc.cell? ⟨ob, 0, none⟩ = some (.bool f') := hOb.cell 0
      by_cases hff : f' = fails
      · subst hff
        go_wp2_with fail
        go_quiet (fail)
        have kd : Keeps (fun _ => False) wc (wc.drewN nq) := (Keeps.refl _ _).drewN nq
        generalize wc.drewN nq = wd at kd ⊢
        have hSd := hS2.keeps kd (fun x => x)
        have hRd := hR2.keeps kd (fun x => x)
        have hObd := hOb.keeps kd (fun x => x)
        have s8d : wd.cell? ⟨sb, 8, none⟩ = some (.bool f') := hSd.cell 8
        have s9d : wd.cell? ⟨sb, 9, none⟩ = some (.bool inv) := hSd.cell 9
        have o1d : wd.cell? ⟨ob, 1, none⟩ = some (.slice (some ⟨rb, 0, none⟩) rc' rc') := hObd.cell 1
        have lsd := hSd.lt
        have lod := hObd.lt
        go_wp2_with fail
        go_region
        have kst : Keeps (fun _ => False) wd (wd.alloc (.cells #[.slice av n cap, .slice none 0 0, .bool f', .bool inv] 47)).drew := ((Keeps.refl _ _).alloc _).drew
        have hset : Blk (wd.alloc (.cells #[.slice av n cap, .slice none 0 0, .bool f', .bool inv] 47)).drew wd.heap.size 47 #[.slice av n cap, .slice none 0 0, .bool f', .bool inv] := Blk.new _ _ _
        generalize (wd.alloc (.cells #[.slice av n cap, .slice none 0 0, .bool f', .bool inv] 47)).drew = ws at kst hset ⊢
        obtain ⟨stb, hstb⟩ : ∃ x, x = wd.heap.size := ⟨_, rfl⟩
        rw [← hstb] at hset ⊢
        have hwd : wc.heap.size ≤ stb := by rw [hstb]; exact kd.size
        have hOs : Blk ws ob 33 #[.bool f', .slice (some ⟨rb, 0, none⟩) rc' rc'] := hObd.keeps kst (fun x => x)
        have o1s : ws.cell? ⟨ob, 1, none⟩ = some (.slice (some ⟨rb, 0, none⟩) rc' rc') := hOs.cell 1
        have hRps := (hRp2.keeps kd (fun x => x)).keeps kst (fun x => x)
        have hOws := (hO2.keeps' kd (fun _ x => x.elim)).keeps' kst (fun _ x => x.elim)
        have hRs := hRd.keeps kst (fun x => x)
        have hseek : ∀ (wx : World) (x : Int), Keeps (fun b => b = stb) ws wx → Calls Ybaf.prog 21 #[.slice av n cap, .int .u64 x] wx fun e w' => (∃ i : Nat, e = .returned (.tuple #[.int .i64 i, .bool (decide (x ∈ d.toList))])) ∧ w' = wx := fun wx x kx => by
          have h := seek_calls B wx (.slice av n cap) (Sort.sort ltInt d) (hOws.keeps' kx (fun b e h => by subst e; have := (hlt0 _ h).2; omega)) (by omega) (sort_rises d) x
          have e : decide (x ∈ (Sort.sort ltInt d).toList) = decide (x ∈ d.toList) := by
            rw [decide_eq_decide]; exact (sort_perm d).mem_iff
          rw [e] at h
          exact h
        obtain ⟨j0, hj0, hy0, hy1, hy2⟩ := info_parts info9
        clear hstb
        go_wp2_with fail
        go_loopw [103] (fun vi wr => ∃ (j : Nat) (lv : Value), vi = .int .i64 j ∧ j ≤ rc' ∧ Blk wr stb 47 #[.slice av n cap, lv, .bool f', .bool inv] ∧ wr.ownsRow ws.heap.size 9 1 lv (linesOf d.toList I T j).length ((linesOf d.toList I T j).map Value.string) ∧ Keeps (fun b => b = stb) ws wr) (fun vi _ => rc' - (intOf vi).toNat)
        case atStart => exact ⟨0, _, rfl, Nat.zero_le _, hset, World.ownsRow_nil _ _ _ _, Keeps.refl _ _⟩
        case round =>
          obtain ⟨j, lv, rfl, hj, hsb2, hown, kj⟩ := hrel
          obtain ⟨lo, lc, rfl⟩ := own_slice hown
          have hll := linesOf_len d.toList I T j
          have hsucc := linesOf_succ d.toList I T j
          by_cases hjr : j < rc'
          · have hRj := hRps.keeps kj (fun e => by obtain ⟨cs, hb, _⟩ := hRps; exact blk_ne hb hset (by decide) e)
            have ci := hRj.id j hjr
            have cl := hRj.line j hjr
            have l1 := hsb2.lt
            have kal : Keeps (fun b => b = stb) ws (wr.alloc (.cells #[.int .u64 (I j), .string (T j)] 30)) := kj.alloc _
            have hsk := hseek _ (I j) kal
            have hwz := kj.size
            generalize hLL : linesOf d.toList I T j = LL at hown hsucc hll hsb2
            have HLL := hid hLL
            have HSC := hid hsucc
            clear hLL hsucc
            by_cases hin : I j ∈ d.toList
            · rw [decide_eq_true hin] at hsk
              go_wp2_with fail
              refine hsk.mono ?_
              rintro e w4 ⟨⟨i, rfl⟩, rfl⟩
              have hsb4 := hsb2.alloc (.cells #[.int .u64 (I j), .string (T j)] 30)
              have t1 : (wr.alloc (.cells #[.int .u64 (I j), .string (T j)] 30)).cell? ⟨stb, 1, none⟩ = some (.slice lo LL.length lc) := hsb4.cell 1
              clear hseek hsk
              go_wp2_with (at_builtin; refine wpList_append_own _ rfl _ _ 36 rfl ws.heap.size 9 j0 (.string ⟨#[]⟩) 1 16 Ybaf.underlying36 hj0 hy0 hy1 hy2 rfl (by decide) _ _ _ rfl ((hown.alloc _).alloc _) ⟨wr.heap.size + 1, 0, none⟩ 1 1 [.string (T j)] rfl rfl ?c1 ?c2 ?c3 ?c4 ?c5 ?_)
              case c1 => exact cell_one_new' _ _ _ _ (by simp)
              case c2 => intro u hu; simp at hu; subst hu; rfl
              case c3 => unfold maxLen; omega
              case c4 => omega
              case c5 => simp; omega
              intro v3 w3 hown3 hgrow3 _
              obtain ⟨r3, cap3, rfl⟩ := ownsRow_succ hown3
              have hsb3 := (hsb4.alloc (.cells #[.string (T j)] 9)).grown hgrow3 (own_ne hown hsb2 (by decide))
              have t3 : w3.cell? ⟨stb, 1, none⟩ = some (.slice lo LL.length lc) := hsb3.cell 1
              have f3 := hsb3.frozen 1
              have hne3 : some stb ≠ (Value.slice (some ⟨r3, 0, none⟩) (LL.length + 1) cap3).ownBlock := own_ne hown3 hsb3 (by decide)
              have k3 : Keeps (fun b => b = stb) ws w3 := (kal.alloc _).grownNew hgrow3 fun b hb => (hown.lt b hb).1
              clear hgrow3
              go_wp2_with fail
              go_roundw
              case rel =>
                have e1 : linesOf d.toList I T (j + 1) = LL ++ [T j] := by rw [HSC.out, if_pos hin]
                refine ⟨j + 1, .slice (some ⟨r3, 0, none⟩) (LL.length + 1) cap3, by go_num, by omega, hsb3.set 1 _, ?_, k3.setCell (a := ⟨stb, 1, none⟩) rfl _⟩
                rw [e1, List.length_append, List.map_append]
                exact ownsRow_store hown3 hne3 _ _
              case measure => simp [intOf]; omega
            · rw [decide_eq_false hin] at hsk
              go_wp2_with fail
              refine hsk.mono ?_
              rintro e w4 ⟨⟨i, rfl⟩, rfl⟩
              clear hseek hsk
              go_wp2_with fail
              go_roundw
              case rel =>
                have e1 : linesOf d.toList I T (j + 1) = LL := by rw [HSC.out, if_neg hin, List.append_nil]
                refine ⟨j + 1, .slice lo LL.length lc, by go_num, by omega, hsb2.alloc _, ?_, kal⟩
                rw [e1]
                exact hown.alloc _
              case measure => simp [intOf]; omega
          · obtain rfl : j = rc' := by omega
            have hRj := hRs.keeps kj (by omega)
            have t0 : wr.cell? ⟨stb, 0, none⟩ = some (.slice av n cap) := hsb2.cell 0
            have t1 : wr.cell? ⟨stb, 1, none⟩ = some (.slice lo (linesOf d.toList I T j).length lc) := hsb2.cell 1
            have t2 : wr.cell? ⟨stb, 2, none⟩ = some (.bool f') := hsb2.cell 2
            have t3 : wr.cell? ⟨stb, 3, none⟩ = some (.bool inv) := hsb2.cell 3
            have q0 : wr.cell? ⟨w.heap.size, 0, none⟩ = some (.slice none 0 0) := hRj.cell 0
            have q1 : wr.cell? ⟨w.heap.size, 1, none⟩ = some (.slice none 0 0) := hRj.cell 1
            have q2 : wr.cell? ⟨w.heap.size, 2, none⟩ = some (.bool false) := hRj.cell 2
            have q3 : wr.cell? ⟨w.heap.size, 3, none⟩ = some (.bool false) := hRj.cell 3
            have r0 := hRj.frozen 0
            have r1 := hRj.frozen 1
            have r2 := hRj.frozen 2
            have r3 := hRj.frozen 3
            have lR := hRj.lt
            generalize hLL : linesOf d.toList I T j = LL at hown t1 hsb2
            have HLL := hid hLL
            clear hLL hsucc hll hseek
            go_wp2_with fail
            have hR3 : Blk ((((wr.setCell ⟨w.heap.size, 0, none⟩ (.slice av n cap)).setCell ⟨w.heap.size, 1, none⟩ (.slice lo LL.length lc)).setCell ⟨w.heap.size, 2, none⟩ (.bool f')).setCell ⟨w.heap.size, 3, none⟩ (.bool inv)) w.heap.size 47 #[.slice av n cap, .slice lo LL.length lc, .bool f', .bool inv] :=
              (((hRj.set 0 _).set 1 _).set 2 _).set 3 _
            refine bodyPost_ret (results_row_tmp rfl _ _ w.heap.size 47 #[.slice av n cap, .slice lo LL.length lc, .bool f', .bool inv] _ rfl hR3 Ybaf.underlying47 rfl size47) rfl ?_
            obtain ⟨k4, _⟩ := stores4 wr w.heap.size (.slice av n cap) (.slice lo LL.length lc) (.bool f') (.bool inv)
            have kds := kd.trans kst
            have hTs := (hT2.keeps33 kds (fun _ x => x.elim)).keeps33 kj (fun b e => by subst e; exact ⟨_, _, hset, by decide, by decide⟩)
            have hTe := hTs.keeps33 k4 (fun b e => by subst e; exact ⟨_, _, hRj, by decide, by decide⟩)
            have hMs := (hM2'.keeps kds (fun x => x))
            have hMj := hMs.keeps kj (hMs.ne_blk hset)
            have hDs := (hD2.keeps kds (fun x => x))
            have hDj := hDs.keeps kj (map_ne_blk hDs hset)
            have hOj := hOws.keeps' kj (fun b e h => by subst e; have := (hlt0 _ h).2; omega)
            refine ⟨r, _, _, rfl, hr, .inr ⟨hgood, ⟨pv, B', hTe⟩, hMj.keeps k4 (hMj.ne_blk hRj), hDj.keeps k4 (map_ne_blk hDj hRj), .inr ⟨rfl, rfl, .slice lo LL.length lc, rfl, hOj.keeps' k4 (fun b e h => by subst e; exact hnR h), ws.heap.size, ?_⟩⟩, ?_⟩
            · rw [HLL.out]
              exact ownsRow_keeps' hown k4 (fun b e => by subst e; exact own_ne hown hRj (by decide))
            · exact (((kw2.trans (kds.mono fun _ _ x => x.elim)).new kj (fun b e => by omega)).new k4 (fun b e => by omega))
      · obtain rfl : f' = !fails := by cases f' <;> cases fails <;> simp_all
        have hb1 : (!fails) ≠ fails := by cases fails <;> decide
        have hb2 : ((!fails) != fails) = true := by cases fails <;> decide
        have hb3 : (!(!fails) == fails) = true := by cases fails <;> decide
        have hmk := run_make_row' (P := Ybaf.prog) 36 9 (.string ⟨#[]⟩) 16 Ybaf.underlying36 info9 rfl .i64 .i64 n (by omega) (by omega)
        have hMs : (madeCells #[.string ⟨#[]⟩] n).size = n := by simp [madeCells]
        generalize madeCells #[.string ⟨#[]⟩] n = M at hmk hMs
        go_wp2_with fail
        go_quiet (fail)
        have kd : Keeps (fun _ => False) wc (wc.drewN nq) := (Keeps.refl _ _).drewN nq
        generalize wc.drewN nq = wd at kd ⊢
        have kn : Keeps (fun _ => False) wc (wd.alloc (.cells M 9)) := kd.alloc _
        have hnb : Blk (wd.alloc (.cells M 9)) wd.heap.size 9 M := Blk.new _ _ _
        have hszd := kd.size
        obtain ⟨Gs, hGs⟩ : ∃ G : Nat → Int, ∀ t, G t = (Sort.sort ltInt d)[t]! := ⟨fun t => (Sort.sort ltInt d)[t]!, fun _ => rfl⟩
        have hcs2 : ∀ t, t < n → ∃ b, av = some ⟨b, 0, none⟩ ∧ b < wc.heap.size ∧ wc.cell? ⟨b, t, none⟩ = some (.int .u64 (Gs t)) := fun t ht => by
          have h' : Own B wc (.slice av (Sort.sort ltInt d).size cap) (Sort.sort ltInt d) := by rw [hsz1]; exact hO2
          rw [hGs]
          exact own_cell h' t (by omega)
        have hwf2 : ∀ t, t < n → (Lit.int .u64 (Gs t)).wf = true := fun t ht => by
          rw [hGs]
          refine hwf1 _ ?_
          have ht2 : t < (Sort.sort ltInt d).size := by omega
          rw [getElem!_pos (Sort.sort ltInt d) t ht2]
          exact Array.getElem_mem_toList ht2
        clear hGs
        go_wp2_with fail
        go_loopw [50] (fun vi wr => ∃ (j : Nat) (cs : Array Value), vi = .int .i64 j ∧ j ≤ n ∧ Keeps (fun _ => False) wc wr ∧ Blk wr wd.heap.size 9 cs ∧ cs.size = n ∧ ∀ t, t < j → ∃ s : ByteArray, cs[t]? = some (.string s) ∧ s.size ≤ 100) (fun vi _ => n - (intOf vi).toNat)
        case atStart => exact ⟨0, M, rfl, Nat.zero_le _, kn, hnb, hMs, fun t ht => by omega⟩
        case round =>
          obtain ⟨j, cs, rfl, hjn, kj, hbj, hcsz, hcst⟩ := hrel
          by_cases hjl : j < n
          · obtain ⟨b, rfl, hbl, hcb⟩ := hcs2 j hjl
            have hcb2 : wr.cell? ⟨b, j, none⟩ = some (.int .u64 (Gs j)) := by
              rw [← hcb]; exact World.cell?_of_block (kj.block _ hbl (fun x => x))
            have hFj : F.told.answers wr.tape := by rw [kj.tape, kw2.tape]; exact hF
            have hF' := answers_open hFj
            have cj : wr.cell? ⟨wd.heap.size, j, none⟩ = cs[j]? := hbj.cell j
            rw [Array.getElem?_eq_getElem (by omega)] at cj
            have fj := hbj.frozen j
            have lj := hbj.lt
            go_wp2_with fail
            go_roundw
            case rel =>
              obtain ⟨s, hs1, hs2⟩ := h_text (Gs j) (hwf2 j hjl)
              have hsz := told_size F hs1 hs2
              refine ⟨j + 1, _, by go_num, by omega, ((kj.setNew (a := ⟨wd.heap.size, j, none⟩) hszd _).alloc _).drew, ((hbj.set j _).alloc _).drewN 1, by simp [hcsz], fun t ht => ?_⟩
              by_cases e : t = j
              · subst e
                exact ⟨_, by rw [Array.getElem?_setIfInBounds_self_of_lt (by omega)]; rfl, hsz⟩
              · obtain ⟨s', h1, h2⟩ := hcst t (by omega)
                exact ⟨s', by rw [Array.getElem?_setIfInBounds_ne (Ne.symm e)]; exact h1, h2⟩
            case measure => simp [intOf]; omega
          · obtain rfl : j = n := by omega
            obtain ⟨f, hf⟩ := choose_lt (n := j) (p := fun t (s : ByteArray) => cs[t]? = some (.string s) ∧ s.size ≤ 100) hcst
            have hown : wr.ownsRow wd.heap.size 9 1 (.slice (some ⟨wd.heap.size, 0, none⟩) j j) j (((List.range j).map f).map Value.string) := by
              refine ⟨by simp, .inr ⟨wd.heap.size, j, cs, rfl, Nat.le_refl _, hbj, Nat.le_refl _, by unfold maxLen; omega, by omega, ?_⟩⟩
              apply List.ext_getElem?
              intro t
              by_cases ht : t < j
              · rw [List.getElem?_take_of_lt (by omega)]
                simp [ht]
                exact (hf t ht).1
              · rw [List.getElem?_eq_none (by simp; omega), List.getElem?_eq_none (by simp; omega)]
            have hszs : ∀ s ∈ (List.range j).map f, s.size ≤ 100 := fun s hs => by
              obtain ⟨t, ht, rfl⟩ := List.mem_map.1 hs
              exact (hf t (by simpa using ht)).2
            clear hmk hcs2 hwf2 hcst hf hcsz
            go_wp2_with fail
            refine (join_own wr wd.heap.size _ j _ ⟨#[32]⟩ rfl hown hl hszs).mono ?_
            rintro e w6 ⟨s, rfl, hs, k6⟩
            have k7 := kj.trans k6
            have hS7 := hS2.keeps k7 (fun x => x)
            have s9 : w6.cell? ⟨sb, 9, none⟩ = some (.bool inv) := hS7.cell 9
            have s8' : w6.cell? ⟨sb, 8, none⟩ = some (.bool fails) := hS7.cell 8
            cases inv
            · go_wp2_with fail
              refine (result_calls fails w6).mono ?_
              rintro e w8 ⟨sr, rfl, rfl⟩
              go_wp2_with fail
              refine (errorf_3 F.told _ (by kernel_rfl) (fun w => by kernel_rfl) _ (by show F.told.answers w8.tape; rw [k7.tape, kw2.tape]; exact hF) _ _ _ _ ((Blk.new w8 20 _).cell 0) ((Blk.new w8 20 _).cell 1) ((Blk.new w8 20 _).cell 2)).mono ?_
              rintro e w9 ⟨kk, rfl, k9⟩
              have k10 := (k7.alloc _).trans k9
              have hR9 := hR2.keeps k10 (fun x => x)
              have q0 : w9.cell? ⟨w.heap.size, 0, none⟩ = some (.slice none 0 0) := hR9.cell 0
              have q1 : w9.cell? ⟨w.heap.size, 1, none⟩ = some (.slice none 0 0) := hR9.cell 1
              have q2 : w9.cell? ⟨w.heap.size, 2, none⟩ = some (.bool false) := hR9.cell 2
              have q3 : w9.cell? ⟨w.heap.size, 3, none⟩ = some (.bool false) := hR9.cell 3
              have r0 := hR9.frozen 0
              have r1 := hR9.frozen 1
              have r2 := hR9.frozen 2
              have r3 := hR9.frozen 3
              have lR := hR9.lt
              clear k9
              go_wp2_with fail
              have hR3 : Blk ((((w9.setCell ⟨w.heap.size, 0, none⟩ (.slice none 0 0)).setCell ⟨w.heap.size, 1, none⟩ (.slice none 0 0)).setCell ⟨w.heap.size, 2, none⟩ (.bool false)).setCell ⟨w.heap.size, 3, none⟩ (.bool false)) w.heap.size 47 #[.slice none 0 0, .slice none 0 0, .bool false, .bool false] :=
                (((hR9.set 0 _).set 1 _).set 2 _).set 3 _
              refine bodyPost_ret (results_row_tmp rfl _ _ w.heap.size 47 #[.slice none 0 0, .slice none 0 0, .bool false, .bool false] _ rfl hR3 Ybaf.underlying47 rfl size47) rfl ?_
              obtain ⟨k4, _⟩ := stores4 w9 w.heap.size (.slice none 0 0) (.slice none 0 0) (.bool false) (.bool false)
              have hT9 := (hT2.keeps33 k10 (fun _ x => x.elim)).keeps33 k4 (fun b e => by subst e; exact ⟨_, _, hR9, by decide, by decide⟩)
              have hM9 := hM2'.keeps k10 (fun x => x)
              have hD9 := hD2.keeps k10 (fun x => x)
              refine ⟨r, _, _, rfl, hr, .inr ⟨hgood, ⟨pv, B', hT9⟩, hM9.keeps k4 (hM9.ne_blk hR9), hD9.keeps k4 (map_ne_blk hD9 hR9), .inl ⟨hb1, rfl, kk, rfl⟩⟩, (kw2.trans (k10.mono fun _ _ x => x.elim)).new k4 (fun b e => by omega)⟩
            · go_wp2_with fail
              refine (result_calls fails w6).mono ?_
              rintro e w8 ⟨sr, rfl, rfl⟩
              go_wp2_with fail
              refine (errorf_3 F.told _ (by kernel_rfl) (fun w => by kernel_rfl) _ (by show F.told.answers w8.tape; rw [k7.tape, kw2.tape]; exact hF) _ _ _ _ ((Blk.new w8 20 _).cell 0) ((Blk.new w8 20 _).cell 1) ((Blk.new w8 20 _).cell 2)).mono ?_
              rintro e w9 ⟨kk, rfl, k9⟩
              have k10 := (k7.alloc _).trans k9
              have hR9 := hR2.keeps k10 (fun x => x)
              have q0 : w9.cell? ⟨w.heap.size, 0, none⟩ = some (.slice none 0 0) := hR9.cell 0
              have q1 : w9.cell? ⟨w.heap.size, 1, none⟩ = some (.slice none 0 0) := hR9.cell 1
              have q2 : w9.cell? ⟨w.heap.size, 2, none⟩ = some (.bool false) := hR9.cell 2
              have q3 : w9.cell? ⟨w.heap.size, 3, none⟩ = some (.bool false) := hR9.cell 3
              have r0 := hR9.frozen 0
              have r1 := hR9.frozen 1
              have r2 := hR9.frozen 2
              have r3 := hR9.frozen 3
              have lR := hR9.lt
              clear k9
              go_wp2_with fail
              have hR3 : Blk ((((w9.setCell ⟨w.heap.size, 0, none⟩ (.slice none 0 0)).setCell ⟨w.heap.size, 1, none⟩ (.slice none 0 0)).setCell ⟨w.heap.size, 2, none⟩ (.bool false)).setCell ⟨w.heap.size, 3, none⟩ (.bool false)) w.heap.size 47 #[.slice none 0 0, .slice none 0 0, .bool false, .bool false] :=
                (((hR9.set 0 _).set 1 _).set 2 _).set 3 _
              refine bodyPost_ret (results_row_tmp rfl _ _ w.heap.size 47 #[.slice none 0 0, .slice none 0 0, .bool false, .bool false] _ rfl hR3 Ybaf.underlying47 rfl size47) rfl ?_
              obtain ⟨k4, _⟩ := stores4 w9 w.heap.size (.slice none 0 0) (.slice none 0 0) (.bool false) (.bool false)
              have hT9 := (hT2.keeps33 k10 (fun _ x => x.elim)).keeps33 k4 (fun b e => by subst e; exact ⟨_, _, hR9, by decide, by decide⟩)
              have hM9 := hM2'.keeps k10 (fun x => x)
              have hD9 := hD2.keeps k10 (fun x => x)
              refine ⟨r, _, _, rfl, hr, .inr ⟨hgood, ⟨pv, B', hT9⟩, hM9.keeps k4 (hM9.ne_blk hR9), hD9.keeps k4 (map_ne_blk hD9 hR9), .inl ⟨hb1, rfl, kk, rfl⟩⟩, (kw2.trans (k10.mono fun _ _ x => x.elim)).new k4 (fun b e => by omega)⟩
end Go.Proofs.YbulkbrtmFmt
